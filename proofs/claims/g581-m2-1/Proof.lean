import JvmDerived
import JvmDerived.Pilot.@@N@@Statement
import JvmDerived.Pilot.@@N@@Code
set_option linter.unusedVariables false
set_option linter.unusedSimpArgs false
@@BLOCK:LamKit.lean.txt@@
namespace Jvm.Pilot.@@N@@
open Jvm Jvm.ClassFile Sem Op Lib Jvm.Free Jvm.Stand Jvm.LawKit Jvm.RoadKit Bundle Jvm.Pilot.@@N@@.Jvm.D
abbrev oW (a0 : Array Value) (Z : State) : Prop := ∀ d ∈ tables_1, d.before a0 Z = true
abbrev kc0 := prog_42_method_12_code
abbrev kc1 := prog_42_method_13_code
abbrev kc2 := prog_42_method_10_code
abbrev kc3 := prog_42_method_11_code
abbrev kc4 := jdk_38_method_29_code
abbrev kc5 := prog_42_method_7_code
abbrev kc6 := prog_44_method_1_code
abbrev kc7 := prog_42_method_4_code
abbrev kc8 := prog_42_method_1_code
abbrev kc9 := jdk_38_method_24_code
abbrev kc10 := prog_41_method_4_code
abbrev kc11 := jdk_38_method_20_code
abbrev kc12 := prog_49_method_8_code
abbrev kc13 := prog_49_method_3_code
abbrev kc14 := jdk_31_method_17_code
abbrev kc15 := prog_49_method_7_code
abbrev kc16 := prog_49_method_2_code
abbrev kc17 := jdk_38_method_25_code
abbrev kc18 := prog_42_method_2_code
abbrev kc19 := prog_44_method_6_code
abbrev kc20 := jdk_41_method_11_code
abbrev kc21 := prog_42_method_6_code
abbrev kc22 := prog_41_method_1_code
abbrev kc23 := prog_42_method_5_code
abbrev kc24 := prog_42_method_9_code
abbrev kc25 := jdk_38_method_39_code
abbrev kc26 := jdk_29_method_66_code
abbrev kc27 := prog_44_method_4_code
abbrev kc28 := prog_49_method_6_code
abbrev kc29 := jdk_29_method_65_code
abbrev kc30 := jdk_38_method_23_code
abbrev kc31 := prog_41_method_2_code
abbrev kc32 := prog_49_method_1_code
abbrev kc33 := jdk_38_method_18_code
abbrev kc34 := jdk_29_method_70_code
abbrev kc35 := jdk_38_method_9_code
abbrev kc36 := jdk_38_method_2_code
abbrev kc37 := jdk_22_method_1_code
abbrev kc38 := jdk_38_method_6_code
abbrev kc39 := jdk_38_method_8_code
abbrev kc40 := jdk_38_method_7_code
abbrev kc41 := jdk_39_method_1_code
abbrev kc42 := method_3_code
abbrev kc43 := method_4_code
theorem own_w {a0 : Array Value} {Z : State} (hw : ∀ d ∈ tables_1, d.before a0 Z = true) (i : Nat) {d : Jvm.Cond} (h : tables_1[i]? = some d) : d.before a0 Z = true := hw _ (List.mem_of_getElem? h)
abbrev own_y0 : MethodName := ⟨"com/example/lockstep/lockstep/session/Event", "<init>", "(JJ[B)V"⟩
abbrev own_y1 : MethodName := ⟨"com/example/lockstep/lockstep/session/Event", "body", "()[B"⟩
abbrev own_y2 : MethodName := ⟨"com/example/lockstep/lockstep/session/Event", "seq", "()J"⟩
abbrev own_y3 : MethodName := ⟨"com/example/lockstep/lockstep/session/FrameRoom", "<init>", "(J)V"⟩
abbrev own_y4 : MethodName := ⟨"com/example/lockstep/lockstep/session/FrameRoom", "<init>", "(JLcom/example/lockstep/lockstep/session/FrameRoom$Order;)V"⟩
abbrev own_y5 : MethodName := ⟨"com/example/lockstep/lockstep/session/FrameRoom", "firstBesides", "(Lcom/example/lockstep/lockstep/session/FrameRoom$Share;)Lcom/example/lockstep/lockstep/session/FrameRoom$Share;"⟩
abbrev own_y6 : MethodName := ⟨"com/example/lockstep/lockstep/session/FrameRoom", "give", "(Lcom/example/lockstep/lockstep/session/FrameRoom$Share;J)V"⟩
abbrev own_y7 : MethodName := ⟨"com/example/lockstep/lockstep/session/FrameRoom", "place", "(Lcom/example/lockstep/lockstep/session/FrameRoom$Share;)V"⟩
abbrev own_y8 : MethodName := ⟨"com/example/lockstep/lockstep/session/FrameRoom", "put", "(Lcom/example/lockstep/lockstep/session/FrameRoom$Share;I)V"⟩
abbrev own_y9 : MethodName := ⟨"com/example/lockstep/lockstep/session/FrameRoom", "share", "(Ljava/lang/Runnable;)Lcom/example/lockstep/lockstep/session/FrameRoom$Share;"⟩
abbrev own_y10 : MethodName := ⟨"com/example/lockstep/lockstep/session/FrameRoom", "siftDown", "(Lcom/example/lockstep/lockstep/session/FrameRoom$Share;)V"⟩
abbrev own_y11 : MethodName := ⟨"com/example/lockstep/lockstep/session/FrameRoom", "siftUp", "(Lcom/example/lockstep/lockstep/session/FrameRoom$Share;)V"⟩
abbrev own_y12 : MethodName := ⟨"com/example/lockstep/lockstep/session/FrameRoom", "take", "(Lcom/example/lockstep/lockstep/session/FrameRoom$Share;JJ)Z"⟩
abbrev own_y13 : MethodName := ⟨"com/example/lockstep/lockstep/session/FrameRoom", "toShed", "(Lcom/example/lockstep/lockstep/session/FrameRoom$Share;JJ)Lcom/example/lockstep/lockstep/session/FrameRoom$Share;"⟩
abbrev own_y14 : MethodName := ⟨"com/example/lockstep/lockstep/session/FrameRoom$Share", "<init>", "(Lcom/example/lockstep/lockstep/session/FrameRoom;Ljava/lang/Runnable;)V"⟩
abbrev own_y15 : MethodName := ⟨"com/example/lockstep/lockstep/session/FrameRoom$Share", "give", "(J)V"⟩
abbrev own_y16 : MethodName := ⟨"com/example/lockstep/lockstep/session/FrameRoom$Share", "takeOnTop", "(J)Z"⟩
abbrev own_y17 : MethodName := ⟨"com/example/lockstep/lockstep/session/History", "<init>", "(IJLcom/example/lockstep/lockstep/session/FrameRoom;)V"⟩
abbrev own_y18 : MethodName := ⟨"com/example/lockstep/lockstep/session/History", "add", "(Lcom/example/lockstep/lockstep/session/Event;)V"⟩
abbrev own_y19 : MethodName := ⟨"com/example/lockstep/lockstep/session/History", "counted", "(I)J"⟩
abbrev own_y20 : MethodName := ⟨"com/example/lockstep/lockstep/session/History", "dropOldest", "()V"⟩
abbrev own_y21 : MethodName := ⟨"com/example/lockstep/lockstep/session/History", "get", "(J)Lcom/example/lockstep/lockstep/session/Event;"⟩
abbrev own_y22 : MethodName := ⟨"com/example/lockstep/lockstep/session/History", "resize", "(I)V"⟩
abbrev own_y23 : MethodName := ⟨"com/example/lockstep/lockstep/session/HistoryGetPinLaw", "fits", "(IJIJJ)Z"⟩
abbrev own_y24 : MethodName := ⟨"com/example/lockstep/lockstep/session/HistoryGetPinLaw", "kept", "(I[IIJJ)I"⟩
abbrev own_y25 : MethodName := ⟨"java/lang/Math", "max", "(II)I"⟩
abbrev own_y26 : MethodName := ⟨"java/lang/Math", "max", "(JJ)J"⟩
abbrev own_y27 : MethodName := ⟨"java/lang/Math", "min", "(JJ)J"⟩
abbrev own_y28 : MethodName := ⟨"java/util/AbstractCollection", "<init>", "()V"⟩
abbrev own_y29 : MethodName := ⟨"java/util/AbstractList", "<init>", "()V"⟩
abbrev own_y30 : MethodName := ⟨"java/util/ArrayList", "<init>", "()V"⟩
abbrev own_y31 : MethodName := ⟨"java/util/ArrayList", "add", "(Ljava/lang/Object;)Z"⟩
abbrev own_y32 : MethodName := ⟨"java/util/ArrayList", "add", "(Ljava/lang/Object;[Ljava/lang/Object;I)V"⟩
abbrev own_y33 : MethodName := ⟨"java/util/ArrayList", "elementData", "(I)Ljava/lang/Object;"⟩
abbrev own_y34 : MethodName := ⟨"java/util/ArrayList", "fastRemove", "([Ljava/lang/Object;I)V"⟩
abbrev own_y35 : MethodName := ⟨"java/util/ArrayList", "get", "(I)Ljava/lang/Object;"⟩
abbrev own_y36 : MethodName := ⟨"java/util/ArrayList", "grow", "()[Ljava/lang/Object;"⟩
abbrev own_y37 : MethodName := ⟨"java/util/ArrayList", "grow", "(I)[Ljava/lang/Object;"⟩
abbrev own_y38 : MethodName := ⟨"java/util/ArrayList", "isEmpty", "()Z"⟩
abbrev own_y39 : MethodName := ⟨"java/util/ArrayList", "remove", "(I)Ljava/lang/Object;"⟩
abbrev own_y40 : MethodName := ⟨"java/util/ArrayList", "set", "(ILjava/lang/Object;)Ljava/lang/Object;"⟩
abbrev own_y41 : MethodName := ⟨"java/util/ArrayList", "size", "()I"⟩
abbrev own_y42 : MethodName := ⟨"java/util/List", "add", "(Ljava/lang/Object;)Z"⟩
abbrev own_y43 : MethodName := ⟨"java/util/List", "get", "(I)Ljava/lang/Object;"⟩
abbrev own_y44 : MethodName := ⟨"java/util/List", "isEmpty", "()Z"⟩
abbrev own_y45 : MethodName := ⟨"java/util/List", "remove", "(I)Ljava/lang/Object;"⟩
abbrev own_y46 : MethodName := ⟨"java/util/List", "set", "(ILjava/lang/Object;)Ljava/lang/Object;"⟩
abbrev own_y47 : MethodName := ⟨"java/util/List", "size", "()I"⟩
abbrev own_y48 : MethodName := ⟨"java/util/Objects", "checkIndex", "(II)I"⟩
abbrev own_y49 : MethodName := ⟨"jdk/internal/util/Preconditions", "checkIndex", "(IILjava/util/function/BiFunction;)I"⟩
abbrev own_r0 : Room := { frames := 0, cells := 0, slots := 0, locals := 0 }
abbrev own_r1 : Room := { frames := 0, cells := 1, slots := 7, locals := 0 }
abbrev own_r2 : Room := { frames := 1, cells := 0, slots := 0, locals := 12 }
abbrev own_r3 : Room := { frames := 1, cells := 0, slots := 0, locals := 14 }
abbrev own_r4 : Room := { frames := 1, cells := 0, slots := 0, locals := 15 }
abbrev own_r5 : Room := { frames := 1, cells := 0, slots := 0, locals := 19 }
abbrev own_r6 : Room := { frames := 1, cells := 1, slots := 10, locals := 14 }
abbrev own_r7 : Room := { frames := 11, cells := 2, slots := 17, locals := 400 }
abbrev own_r8 : Room := { frames := 2, cells := 0, slots := 0, locals := 24 }
abbrev own_r9 : Room := { frames := 2, cells := 0, slots := 0, locals := 27 }
abbrev own_r10 : Room := { frames := 2, cells := 0, slots := 0, locals := 28 }
abbrev own_r11 : Room := { frames := 2, cells := 1, slots := 10, locals := 29 }
abbrev own_r12 : Room := { frames := 2, cells := 1, slots := 5, locals := 27 }
abbrev own_r13 : Room := { frames := 3, cells := 0, slots := 0, locals := 36 }
abbrev own_r14 : Room := { frames := 3, cells := 0, slots := 0, locals := 40 }
abbrev own_r15 : Room := { frames := 3, cells := 0, slots := 0, locals := 42 }
abbrev own_r16 : Room := { frames := 3, cells := 0, slots := 0, locals := 47 }
abbrev own_r17 : Room := { frames := 3, cells := 1, slots := 10, locals := 41 }
abbrev own_r18 : Room := { frames := 3, cells := 3, slots := 6, locals := 3075 }
abbrev own_r19 : Room := { frames := 4, cells := 0, slots := 0, locals := 56 }
abbrev own_r20 : Room := { frames := 4, cells := 0, slots := 0, locals := 66 }
abbrev own_r21 : Room := { frames := 4, cells := 1, slots := 10, locals := 56 }
abbrev own_r22 : Room := { frames := 4, cells := 1, slots := 3, locals := 50 }
abbrev own_r23 : Room := { frames := 5, cells := 0, slots := 0, locals := 71 }
abbrev own_r24 : Room := { frames := 5, cells := 0, slots := 0, locals := 75 }
abbrev own_r25 : Room := { frames := 5, cells := 1, slots := 10, locals := 71 }
abbrev own_r26 : Room := { frames := 5, cells := 1, slots := 3, locals := 65 }
abbrev own_r27 : Room := { frames := 6, cells := 0, slots := 0, locals := 85 }
abbrev own_r28 : Room := { frames := 6, cells := 0, slots := 0, locals := 94 }
abbrev own_r29 : Room := { frames := 6, cells := 1, slots := 10, locals := 85 }
abbrev own_r30 : Room := { frames := 7, cells := 0, slots := 0, locals := 100 }
abbrev own_r31 : Room := { frames := 7, cells := 0, slots := 0, locals := 104 }
abbrev own_r32 : Room := { frames := 7, cells := 1, slots := 10, locals := 104 }
abbrev own_r33 : Room := { frames := 8, cells := 0, slots := 0, locals := 114 }
abbrev oF0 (Z : State) (h : Heap) (a : Addr) (v : Value) : Prop := Fld Z h a "com/example/lockstep/lockstep/session/Event" "seq" "J" v
abbrev oF1 (Z : State) (h : Heap) (a : Addr) (v : Value) : Prop := Fld Z h a "com/example/lockstep/lockstep/session/Event" "body" "[B" v
abbrev oF2 (Z : State) (h : Heap) (a : Addr) (v : Value) : Prop := Fld Z h a "com/example/lockstep/lockstep/session/FrameRoom" "bound" "J" v
abbrev oF3 (Z : State) (h : Heap) (a : Addr) (v : Value) : Prop := Fld Z h a "com/example/lockstep/lockstep/session/FrameRoom" "holders" "Ljava/util/List;" v
abbrev oF4 (Z : State) (h : Heap) (a : Addr) (v : Value) : Prop := Fld Z h a "com/example/lockstep/lockstep/session/FrameRoom" "held" "J" v
abbrev oF5 (Z : State) (h : Heap) (a : Addr) (v : Value) : Prop := Fld Z h a "com/example/lockstep/lockstep/session/FrameRoom" "moves" "J" v
abbrev oF6 (Z : State) (h : Heap) (a : Addr) (v : Value) : Prop := Fld Z h a "com/example/lockstep/lockstep/session/FrameRoom$Share" "this$0" "Lcom/example/lockstep/lockstep/session/FrameRoom;" v
abbrev oF7 (Z : State) (h : Heap) (a : Addr) (v : Value) : Prop := Fld Z h a "com/example/lockstep/lockstep/session/FrameRoom$Share" "held" "J" v
abbrev oF8 (Z : State) (h : Heap) (a : Addr) (v : Value) : Prop := Fld Z h a "com/example/lockstep/lockstep/session/FrameRoom$Share" "moved" "J" v
abbrev oF9 (Z : State) (h : Heap) (a : Addr) (v : Value) : Prop := Fld Z h a "com/example/lockstep/lockstep/session/FrameRoom$Share" "slot" "I" v
abbrev oF10 (Z : State) (h : Heap) (a : Addr) (v : Value) : Prop := Fld Z h a "java/util/ArrayList" "elementData" "[Ljava/lang/Object;" v
abbrev oF11 (Z : State) (h : Heap) (a : Addr) (v : Value) : Prop := Fld Z h a "java/util/ArrayList" "size" "I" v
abbrev oF12 (Z : State) (h : Heap) (a : Addr) (v : Value) : Prop := Fld Z h a "java/util/AbstractList" "modCount" "I" v
abbrev oF13 (Z : State) (h : Heap) (a : Addr) (v : Value) : Prop := Fld Z h a "com/example/lockstep/lockstep/session/History" "maxEvents" "I" v
abbrev oF14 (Z : State) (h : Heap) (a : Addr) (v : Value) : Prop := Fld Z h a "com/example/lockstep/lockstep/session/History" "maxBytes" "J" v
abbrev oF15 (Z : State) (h : Heap) (a : Addr) (v : Value) : Prop := Fld Z h a "com/example/lockstep/lockstep/session/History" "total" "Lcom/example/lockstep/lockstep/session/FrameRoom$Share;" v
abbrev oF16 (Z : State) (h : Heap) (a : Addr) (v : Value) : Prop := Fld Z h a "com/example/lockstep/lockstep/session/History" "ring" "[Lcom/example/lockstep/lockstep/session/Event;" v
abbrev oF17 (Z : State) (h : Heap) (a : Addr) (v : Value) : Prop := Fld Z h a "com/example/lockstep/lockstep/session/History" "head" "I" v
abbrev oF18 (Z : State) (h : Heap) (a : Addr) (v : Value) : Prop := Fld Z h a "com/example/lockstep/lockstep/session/History" "size" "I" v
abbrev oF19 (Z : State) (h : Heap) (a : Addr) (v : Value) : Prop := Fld Z h a "com/example/lockstep/lockstep/session/History" "bytes" "J" v
abbrev oF20 (Z : State) (h : Heap) (a : Addr) (v : Value) : Prop := Fld Z h a "com/example/lockstep/lockstep/session/History" "lastSeq" "J" v
abbrev oF21 (Z : State) (h : Heap) (a : Addr) (v : Value) : Prop := Fld Z h a "com/example/lockstep/lockstep/session/Event" "timeMs" "J" v
abbrev oF22 (Z : State) (h : Heap) (a : Addr) (v : Value) : Prop := Fld Z h a "com/example/lockstep/lockstep/session/FrameRoom" "order" "Lcom/example/lockstep/lockstep/session/FrameRoom$Order;" v
abbrev oF23 (Z : State) (h : Heap) (a : Addr) (v : Value) : Prop := Fld Z h a "com/example/lockstep/lockstep/session/FrameRoom$Share" "shed" "Ljava/lang/Runnable;" v
abbrev oX0 (Z : State) (h : Heap) (a : Addr) : Prop := Exa Z h a "[B"
abbrev oX1 (Z : State) (h : Heap) (a : Addr) : Prop := Exa Z h a "com/example/lockstep/lockstep/session/Event"
abbrev oX2 (Z : State) (h : Heap) (a : Addr) : Prop := Exa Z h a "com/example/lockstep/lockstep/session/FrameRoom"
abbrev oX3 (Z : State) (h : Heap) (a : Addr) : Prop := Exa Z h a "com/example/lockstep/lockstep/session/FrameRoom$Share"
abbrev oX4 (Z : State) (h : Heap) (a : Addr) : Prop := Exa Z h a "java/util/ArrayList"
abbrev oX5 (Z : State) (h : Heap) (a : Addr) : Prop := Exa Z h a "com/example/lockstep/lockstep/session/History"
abbrev vR (a : Addr) : Slot := .val (.ref a)
abbrev vI (n : Int32) : Slot := .val (.int n)
abbrev vJ (n : Int64) : Slot := .val (.long n)
abbrev os0 (Z : State) := Jvm.RoadKit.slotOf Z "java/util/ArrayList" "size" "I"
abbrev os1 (Z : State) := Jvm.RoadKit.slotOf Z "java/util/ArrayList" "elementData" "[Ljava/lang/Object;"
abbrev os2 (Z : State) := Jvm.RoadKit.slotOf Z "java/util/AbstractList" "modCount" "I"
abbrev os3 (Z : State) := Jvm.RoadKit.slotOf Z "com/example/lockstep/lockstep/session/FrameRoom$Share" "held" "J"
abbrev os4 (Z : State) := Jvm.RoadKit.slotOf Z "com/example/lockstep/lockstep/session/FrameRoom$Share" "slot" "I"
abbrev os5 (Z : State) := Jvm.RoadKit.slotOf Z "com/example/lockstep/lockstep/session/FrameRoom$Share" "moved" "J"
abbrev os6 (Z : State) := Jvm.RoadKit.slotOf Z "com/example/lockstep/lockstep/session/FrameRoom$Share" "this$0" "Lcom/example/lockstep/lockstep/session/FrameRoom;"
abbrev os7 (Z : State) := Jvm.RoadKit.slotOf Z "com/example/lockstep/lockstep/session/FrameRoom" "bound" "J"
abbrev os8 (Z : State) := Jvm.RoadKit.slotOf Z "com/example/lockstep/lockstep/session/FrameRoom" "held" "J"
abbrev os9 (Z : State) := Jvm.RoadKit.slotOf Z "com/example/lockstep/lockstep/session/FrameRoom" "holders" "Ljava/util/List;"
abbrev os10 (Z : State) := Jvm.RoadKit.slotOf Z "com/example/lockstep/lockstep/session/FrameRoom" "moves" "J"
abbrev os11 (Z : State) := Jvm.RoadKit.slotOf Z "com/example/lockstep/lockstep/session/Event" "timeMs" "J"
abbrev os12 (Z : State) := Jvm.RoadKit.slotOf Z "com/example/lockstep/lockstep/session/Event" "seq" "J"
abbrev os13 (Z : State) := Jvm.RoadKit.slotOf Z "com/example/lockstep/lockstep/session/Event" "body" "[B"
abbrev os14 (Z : State) := Jvm.RoadKit.slotOf Z "com/example/lockstep/lockstep/session/FrameRoom" "order" "Lcom/example/lockstep/lockstep/session/FrameRoom$Order;"
abbrev os15 (Z : State) := Jvm.RoadKit.slotOf Z "com/example/lockstep/lockstep/session/FrameRoom$Share" "shed" "Ljava/lang/Runnable;"
abbrev os16 (Z : State) := Jvm.RoadKit.slotOf Z "com/example/lockstep/lockstep/session/History" "maxEvents" "I"
abbrev os17 (Z : State) := Jvm.RoadKit.slotOf Z "com/example/lockstep/lockstep/session/History" "ring" "[Lcom/example/lockstep/lockstep/session/Event;"
abbrev os18 (Z : State) := Jvm.RoadKit.slotOf Z "com/example/lockstep/lockstep/session/History" "maxBytes" "J"
abbrev os19 (Z : State) := Jvm.RoadKit.slotOf Z "com/example/lockstep/lockstep/session/History" "total" "Lcom/example/lockstep/lockstep/session/FrameRoom$Share;"
abbrev os20 (Z : State) := Jvm.RoadKit.slotOf Z "com/example/lockstep/lockstep/session/History" "head" "I"
abbrev os21 (Z : State) := Jvm.RoadKit.slotOf Z "com/example/lockstep/lockstep/session/History" "size" "I"
abbrev os22 (Z : State) := Jvm.RoadKit.slotOf Z "com/example/lockstep/lockstep/session/History" "bytes" "J"
abbrev os23 (Z : State) := Jvm.RoadKit.slotOf Z "com/example/lockstep/lockstep/session/History" "lastSeq" "J"
theorem dk {p : Prop} [Decidable p] (h : p := by decide +kernel) : p := h
abbrev dc (c : ByteArray) (pc : Nat) (i : Instr) (n : Nat) : Prop := decode c pc = .ok (i, n)
abbrev TL (x0 : Int32) (x1 x3 : Int64) (x5 : Int32) (x6 : Int64) (M : Int32) (mb bd : Int64) (n1 n2 n3 n : Int32) (q : Int64) (a b c d e f : Addr) (u v w : Slot) : Array Slot := #[vI x0, vJ x1, .second, vJ x3, .second, vI x5, vJ x6, .second, vI M, vJ mb, .second, vJ bd, .second, vI n1, vI n2, vI n3, vI n, vJ q, .second, vR a, vR b, vR c, vR d, vR e, vR f, u, v, w]
theorem ow {ws : List Addr} {a : Addr} {q : Prop} (i : Nat) (h : ws[i]? = some a) : a ∈ ws ∨ q := Or.inl (List.mem_of_getElem? h)
theorem own_2z {a b : Nat} (h : 2 * 0 + a = b := by rfl) : 2 * 0 + a ≤ b := Nat.le_of_eq h
section OwnKit
variable {p : Program} {l : Launch} {e : Env} {R : Room} {s : State} {m : MethodId} {args : Array Value} {below : List Frame} {meth : Method} {c : Code} {T : State} {locs : List Loc} {cells slots : Nat}
/-- from T the run comes to an end of which F holds -/
def oG (p : Program) (e : Env) (below : List Frame) (F : State → Outcome → Prop) (T : State) : Prop := ∃ t o, Steps p.tables e below T t ∧ t.status = .running ∧ Ended t below o ∧ F t o
theorem oS {F : State → Outcome → Prop} {A B : State} (k : ∀ t, Steps p.tables e below A t → Steps p.tables e below B t) (h : oG p e below F A) : oG p e below F B := by
 obtain ⟨t, o, h1, h2⟩ := h
 exact ⟨t, o, k t h1, h2⟩
theorem own_in {F : State → Outcome → Prop} {A B : State} (k : ∀ {t}, Steps p.tables e below A t → Steps p.tables e below B t) (h : oG p e below F A) : ∃ t o, Steps p.tables e below B t ∧ t.status = .running ∧ Ended t below o ∧ F t o := by
 obtain ⟨t, o, h1, h2⟩ := h
 exact ⟨t, o, k h1, h2⟩
theorem own_retI (X : Stand p l e R s m args below meth c T locs cells slots) (hx : p.tables.exec = Jvm.exec) {pc : Nat} {Ls : Array Slot} {z : Int32} {rest : List Value} (hret : meth.sig.returnType = some .int) (hd : decode c.code pc = .ok (.ireturn, 1)) {fs : List Frame}
   (hl : ∀ (f : JFrame) (acts : List Action), f.method = m → f.locked = none → f.entered = [] → (doReturn e (T.setTop f) acts (some (.int z))).1 = T.setFrames fs) : Steps p.tables e below (T.setTop (mkF m pc Ls (.int z :: rest))) (T.setFrames fs) :=
 retOut X hx hret rfl (Or.inl ⟨rfl, Or.inl rfl, _, rfl⟩) hd hl
theorem own_join {α : Type} {F : State → Outcome → Prop} {B : State} {H : Heap} (X : Stand p l e R s m args below meth c T locs cells slots) (eT : T.heap = H) (A : State → α → State) (Pr : α → Prop)
   (h1 : ∀ T' a, Stand p l e R s m args below meth c T' locs cells slots → T'.heap = H → Pr a → oG p e below F (A T' a))
   (h2 : (∀ T' a, Stand p l e R s m args below meth c T' locs cells slots → T'.heap = H → Pr a → oG p e below F (A T' a)) → oG p e below F B) : oG p e below F B := h2 h1
theorem own_ktr {h0 h h' : Heap} {ws : List Addr} (K : Keep h0 h ws) (K' : Keep h h' ws) : Keep h0 h' ws := K.trans K' fun _ q => Or.inl q
theorem own_gF {F₀ : State → Outcome → Prop} {Z : State} {a0 : Array Value} {h : Heap} (X : Stand p l e R s m args below meth c T locs cells slots) (hx : p.tables.exec = Jvm.exec) (hZ : Z.Warmed39 s.vm) {own R0 O n d : String} {index : Nat} (hown : s.vm.findClass own = some m.cls) (w : (Cond.fieldLink own index R0 n d).before a0 Z = true) (via : Via Z R0 O n d) (eT : T.heap = h) {a : Addr} {v : Value} (F : Fld Z h a O n d v) {pc : Nat} {Ls : Array Slot} {rest : List Value} (hd : decode c.code pc = .ok (.getfield index, 3))
   (κ : ∀ T', Stand p l e R s m args below meth c T' locs cells slots → T'.heap = h → oG p e below F₀ (T'.setTop (mkF m (pc + 3) Ls (v :: rest)))) : oG p e below F₀ (T.setTop (mkF m pc Ls (.ref a :: rest))) := by
 obtain ⟨T', X', e', st⟩ := getF X hx hZ hown (host := "") (Or.inl w) via eT F (g := mkF m pc Ls (.ref a :: rest)) rfl rfl hd
 exact oS st (κ T' X' e')
theorem own_gN {F₀ : State → Outcome → Prop} {Z : State} {a0 : Array Value} {h : Heap} (X : Stand p l e R s m args below meth c T locs cells slots) (hx : p.tables.exec = Jvm.exec) (hZ : Z.Warmed39 s.vm) {own R0 O n d host : String} {index : Nat} (hown : s.vm.findClass own = some m.cls) (w : (Cond.fieldLinkNest own index R0 n d host).before a0 Z = true) (via : Via Z R0 O n d) (eT : T.heap = h) {a : Addr} {v : Value} (F : Fld Z h a O n d v) {pc : Nat} {Ls : Array Slot} {rest : List Value} (hd : decode c.code pc = .ok (.getfield index, 3))
   (κ : ∀ T', Stand p l e R s m args below meth c T' locs cells slots → T'.heap = h → oG p e below F₀ (T'.setTop (mkF m (pc + 3) Ls (v :: rest)))) : oG p e below F₀ (T.setTop (mkF m pc Ls (.ref a :: rest))) := by
 obtain ⟨T', X', e', st⟩ := getF X hx hZ hown (Or.inr w) via eT F (g := mkF m pc Ls (.ref a :: rest)) rfl rfl hd
 exact oS st (κ T' X' e')
abbrev own_Met (l : Launch) (y : MethodName) (code : ByteArray) (ml : Nat) (ret : Option FieldType) (ws : List Jvm.Cond) (rm : Room) (av : Array Value) (Z : State) (h0 : Heap) (Q : Option Value → Heap → List Loc → Prop) : Prop :=
 MetFree l y (head1 (Jvm.Cond.code y code ml ret :: ws) rm) (fun ar_ U => ar_ = av ∧ Z.Warmed39 U.vm ∧ U.heap = h0) (fun _ _ _ _ _ => True) (fun _ U oo_ U' => ∃ v L, oo_ = .returned v ∧ Q v U'.heap L ∧ FrameEnd U oo_ U' L rm.cells rm.slots)
theorem own_sta {args : Array Value} {s : State} {C n d K : String} (h : (Jvm.Cond.exactly (.static C n d) K).value args s none s [] = some true) (w1 : (Jvm.Cond.initialized C).before args s = true) (w2 : (Jvm.Cond.laysStatic C n d).before args s = true) :
   ∃ a, (Term.static C n d).eval args s none [] s = some (.ref a) ∧ Sta s s.heap C n d (.ref a) ∧ Exa s s.heap a K := by
 obtain ⟨a, ea⟩ := exa_v h
 exact ⟨a, ea, Sta.start ea (Or.inr ⟨w1, w2⟩), Exa.start ea h⟩
theorem own_staF {args : Array Value} {s : State} {t : Term} {C n d : String} {a : Addr} {k : Int32} (ea : t.eval args s none [] s = some (.ref a)) (h : (Jvm.Cond.eq (.field t C n d) (.int k)).value args s none s [] = some true) : Fld s s.heap a C n d (.int k) := by
 obtain ⟨x, y, e1, e2, -, -⟩ := cmp_v (Or.inl h)
 cases (Term.int_eval k).symm.trans e2
 have e3 : x = .int k := by
   cases x <;> simp [Cond.value, e1, Term.int_eval] at h
   rw [h]
 rw [fld_at ea, e3] at e1
 exact Fld.start e1
end OwnKit

theorem own_selP {Z s : State} {a0 args : Array Value} {y : MethodName} {n : Nat} (hZ : Z.Warmed39 s.vm) (wi : (Jvm.Cond.instantiable y.cls n).before a0 Z = true) (wp : (Jvm.Cond.privateMethod y).before a0 Z = true) (wm : (Jvm.Cond.instanceMethod y).before a0 Z = true) (hy : y.cls ≠ "java/lang/invoke/MethodHandle" ∧ y.cls ≠ "java/lang/invoke/VarHandle") : (Jvm.Cond.selects y.cls y y).before args s = true := by
 obtain ⟨c, k, h1, h2, -, h4, -⟩ := Cond.instantiable_spec (mvT hZ wi (args := args))
 have h5 : k.isInterface = false := by
   simp only [Bool.or_eq_false_iff] at h4
   exact h4.1
 exact selects_self_of_private h1 h2 h5 (Cond.privateMethod_at (mvP hZ wp (args := args))) (mvT hZ wm) hy

def own_zero : Nat → Int32 := fun _ => 0
def own_upd (g : Nat → Int32) (j : Nat) (v : Int32) : Nat → Int32 := fun i => if i = j then v else g i
def own_cut (g : Nat → Int32) (n : Int32) : Nat → Int32 := fun i => if i < n.toNatClampNeg then g i else 0
def own_vs (n : Int32) (g : Nat → Int32) : List Value := (List.range n.toNatClampNeg).map fun i => Value.int (g i)
/-- at b lies a byte[] of length n whose places hold g -/
def own_By (Z : State) (h : Heap) (b : Addr) (n : Int32) (g : Nat → Int32) : Prop := ∃ k, Arv Z h b k .byte n (own_vs n g) (.int 0) ∧ oX0 Z h b
theorem own_vs_get (n : Int32) (g : Nat → Int32) (i : Nat) (hi : i < n.toNatClampNeg) : (own_vs n g).getD i (.int 0) = .int (g i) := by
 simp [own_vs, List.getD, List.getElem?_map, List.getElem?_range hi]
theorem own_vs_len (n : Int32) (g : Nat → Int32) : (own_vs n g).length = n.toNatClampNeg := by simp [own_vs]
section OwnBy
variable {Z : State} {h h' : Heap} {a b : Addr} {n : Int32} {g : Nat → Int32} {ws : List Addr} {sl : Nat} {v : Value}
theorem own_By.ext (F : own_By Z h b n g) (E : Ext h h') : own_By Z h' b n g := by obtain ⟨k, A, X⟩ := F; exact ⟨k, A.ext E, X.ext E⟩
theorem own_By.other (F : own_By Z h b n g) (W : Wr h h' a sl v) (q : b ≠ a) : own_By Z h' b n g := by obtain ⟨k, A, X⟩ := F; exact ⟨k, A.other W q, X.wr W⟩
theorem own_By.keep (F : own_By Z h b n g) (K : Keep h h' ws) (q : b ∉ ws) : own_By Z h' b n g := by obtain ⟨k, A, X⟩ := F; exact ⟨k, A.keep K q, X.keep K⟩
theorem own_By.lt (F : own_By Z h b n g) : b < h.size := by obtain ⟨k, A, X⟩ := F; exact A.lt
theorem own_By.mk {k : ClassId} {vs : List Value} {d : Value} (A : Arv Z h b k .byte n vs d) (X : oX0 Z h b) (q : ∀ i, i < n.toNatClampNeg → vs.getD i d = .int (g i)) : own_By Z h b n g := by
 obtain ⟨c, A, r1, r2, r3, H, G⟩ := A
 refine ⟨k, ⟨c, A, r1, r2, r3, fun i hi => ?_, fun i hi => ?_⟩, X⟩
 · rw [own_vs_get n g i (by rw [← r2]; exact hi), ← q i (by rw [← r2]; exact hi)]; exact H i hi
 · rw [own_vs_get n g i (by rw [← r2]; exact hi), ← q i (by rw [← r2]; exact hi)]; exact G i hi
theorem own_By.congr {g' : Nat → Int32} (F : own_By Z h b n g) (q : ∀ i, i < n.toNatClampNeg → g i = g' i) : own_By Z h b n g' := by
 obtain ⟨k, A, X⟩ := F
 exact own_By.mk A X fun i hi => by rw [own_vs_get n g i hi, q i hi]
theorem own_By.new {k : ClassId} (A : Arr Z h b (newA k .byte n) .byte) (X : oX0 Z h b) (q : ¬ n < 0) : own_By Z h b n own_zero :=
 own_By.mk (Arv.new A q) X fun i hi => rfl
theorem own_By.opened (F : own_By Z h b n g) : ∃ cl : Cell, Arr Z h b cl .byte ∧ cl.slots.size = n.toNatClampNeg ∧ ¬ n < 0 ∧ ∀ j : Int32, ¬ (j < 0 ∨ cl.slots.size ≤ j.toNatClampNeg) → cl.slots[j.toNatClampNeg]? = some (.int (g j.toNatClampNeg)) := by
 obtain ⟨k, ⟨c, A, r1, r2, r3, H, G⟩, X⟩ := F
 refine ⟨c, A, r2, r3, fun j hj => ?_⟩
 have hlt : j.toNatClampNeg < c.slots.size := Nat.lt_of_not_le fun y => hj (Or.inr y)
 rw [H _ hlt, own_vs_get n g _ (by rw [← r2]; exact hlt)]
theorem own_By.set {j x : Int32} (F : own_By Z h b n g) (W : Wr h h' b j.toNatClampNeg (.int x.toInt8.toInt32)) (hj : ¬ j < 0 ∧ j < n) : own_By Z h' b n (own_upd g j.toNatClampNeg x.toInt8.toInt32) := by
 obtain ⟨k, ⟨c, A, r1, r2, r3, H, G⟩, X⟩ := F
 have hin := inb_of r2 hj
 have hlt : j.toNatClampNeg < n.toNatClampNeg := by rw [← r2]; exact Nat.lt_of_not_le fun y => hin (Or.inr y)
 refine own_By.mk (Arv.set A r1 r2 r3 H G (fits_nar_byte _) W j.toNatClampNeg rfl (by rw [own_vs_len]; exact hlt)) (X.wr W) fun i hi => ?_
 by_cases e : i = j.toNatClampNeg
 · subst e
   simp [own_upd, List.getD, List.getElem?_set, own_vs_len, hlt]
 · have := own_vs_get n g i hi
   simp only [List.getD] at this ⊢
   rw [List.getElem?_set_ne (fun q => e q.symm), this]
   simp [own_upd, e]
end OwnBy
section OwnRef
variable {p : Program} {l : Launch} {e : Env} {R : Room} {s : State} {m : MethodId} {args : Array Value} {below : List Frame} {meth : Method} {c : Code} {T : State} {locs : List Loc} {cells slots : Nat} {Z : State} {h : Heap} {a0 : Array Value}
theorem own_fready (X : Stand p l e R s m args below meth c T locs cells slots) (hZ : Z.Warmed39 s.vm) {own O n d : String} {index : Nat} (hown : s.vm.findClass own = some m.cls) (w : (Cond.fieldRef own index O n d).before a0 Z = true) {cf i : Nat} {k : Class} {f : Field} (h2 : Z.fieldFound? O n d = some (cf, k, i, f)) : T.vm.fieldReady m.cls index cf f := by
 have hT : Z.Warmed39 T.vm := wtrans hZ X.warmed
 have hc : (Z.setVm T.vm).vm.findClass own = some m.cls := by
   show T.vm.findClass own = _
   rw [X.warmed.alike.findClass]; exact hown
 obtain ⟨c1, k1, i1, f1, q1, q2⟩ := Cond.fieldRef_spec hc (Cond.fieldRef_warmed39 hT w)
 obtain ⟨k', hi, -⟩ := State.fieldFound?_setVm (s := Z) hT.alike h2
 cases q1.symm.trans hi
 exact q2
theorem own_getFR (X : Stand p l e R s m args below meth c T locs cells slots) (hx : p.tables.exec = Jvm.exec) (hZ : Z.Warmed39 s.vm) {own O n d : String} {index : Nat} (hown : s.vm.findClass own = some m.cls) (w : (Cond.fieldRef own index O n d).before a0 Z = true)
   (eT : T.heap = h) {a : Addr} {v : Value} (F : Fld Z h a O n d v) {g : JFrame} (hg : g.method = m) {rest : List Value} (hs : g.stack = .ref a :: rest) (hd : decode c.code g.pc = .ok (.getfield index, 3)) : ∃ T', Stand p l e R s m args below meth c T' locs cells slots ∧ T'.heap = h ∧ ∀ target, Steps p.tables e below (T'.setTop { g with pc := g.pc + 3, stack := v :: rest }) target → Steps p.tables e below (T.setTop g) target := by
 obtain ⟨cell, cf, k, i, f, h1, h2, h3, h4, -, -, h7⟩ := F
 have hr := own_fready X hZ hown w h2
 refine ⟨T, X, eT, fun target hrest => ?_⟩
 subst hg
 jvm_step X.here [hx, hd, getfield.wp_ready (e := e) (s := T) (f := g) X.here.top hr h3 hs (by rw [eT]; exact h1) h4 h7]
 exact hrest
theorem own_putFR (X : Stand p l e R s m args below meth c T locs cells slots) (hx : p.tables.exec = Jvm.exec) (hZ : Z.Warmed39 s.vm) {own O n d C : String} {index kk : Nat} {ty : FieldType} (hown : s.vm.findClass own = some m.cls) (w : (Cond.fieldRef own index O n d).before a0 Z = true)
   (eT : T.heap = h) {a : Addr} {v old : Value} (F : Fld Z h a O n d old) (E : Exa Z h a C) (L : (Cond.lays C O n d).before a0 Z = true) (wi : (Cond.instantiable C kk).before a0 Z = true)
   (hty : parseFieldDescriptor d = some ty) (hn : narrow ty v = v) (hf : fits ty v = true) {g : JFrame} (hg : g.method = m) {rest : List Value} (hs : g.stack = v :: .ref a :: rest) (hd : decode c.code g.pc = .ok (.putfield index, 3)) :
   ∃ T' h', Stand p l e R s m args below meth c T' (locs ++ [⟨a, Jvm.RoadKit.slotOf Z O n d⟩]) cells slots ∧ T'.heap = h' ∧ Wr h h' a (Jvm.RoadKit.slotOf Z O n d) v ∧ ∀ target, Steps p.tables e below (T'.setTop { g with pc := g.pc + 3, stack := rest }) target → Steps p.tables e below (T.setTop g) target := by
 obtain ⟨cell, cf, k, i, f, h1, h2, h3, h4, h5, -, h7⟩ := F
 obtain ⟨cell', kc, e1, e2, e3, -⟩ := E
 cases h1.symm.trans e1
 obtain ⟨c1, k1, cf1, kf1, i1, f1, a1, a2, a3, -, a5, -, a6, -⟩ := Cond.lays_spec L
 cases h2.symm.trans a3
 cases e2.symm.trans a1
 obtain ⟨c2, k2, i1, i2, i3, -⟩ := Cond.instantiable_spec wi
 cases e2.symm.trans i1
 cases a2.symm.trans i2
 have ht := (State.fieldFound?_type h2 hty).2
 have hfit : Z.fitsSlot cell.cls cell.vm f.slot v = true := by
   have q : Z.slotType? cell.cls cell.vm f.slot = some ty := by
     simp only [State.slotType?, a2, Option.bind_eq_bind, Option.bind_some, i3]
     cases hq : cell.vm <;> first | (rw [hq] at h5; exact Bool.noConfusion h5) | (rw [a6, ht])
   simp [State.fitsSlot, q, hf]
 have hT : Z.Warmed39 T.vm := wtrans hZ X.warmed
 have hfit' : T.fitsSlot cell.cls cell.vm f.slot v = true := by rw [← State.fitsSlot_setVm hT.alike] at hfit; exact hfit
 have hr := own_fready X hZ hown w h2
 have hlt := (Array.getElem?_eq_some_iff.mp h7).1
 have es : Jvm.RoadKit.slotOf Z O n d = f.slot := by simp [Jvm.RoadKit.slotOf, h2]
 rw [es]
 obtain ⟨X', st⟩ := X.putfieldReady hx hr h3 (Or.inl a5) (by rw [eT]; exact h1) h4 hlt (by rw [ht]; exact hn) hfit' hg hs hd
 exact ⟨_, _, X', rfl, ⟨cell, h1, h5, hlt, by rw [← eT]; rfl⟩, st⟩
/-- 'invokespecial' of a constructor by an entry that is resolved already -/
theorem own_refBack (X : Stand p l e R s m args below meth c T locs cells slots) (hexec : p.tables.exec = Jvm.exec) {own : String} {index : Nat} {y : MethodName} (hy1 : y.name = "<init>")
   (hown : s.vm.findClass own = some m.cls) (hZ : Z.Warmed39 s.vm) (w : (Cond.methodRef own index y).before a0 Z = true) (wi : (Cond.instanceMethod y).before a0 Z = true) (hinst : (Cond.instanceMethod y).before args s = true)
   {bytes : ByteArray} {maxL : Nat} (hcode : (Cond.code y bytes maxL none).before args s = true)
   (hy : y.cls ≠ "java/lang/invoke/MethodHandle" ∧ y.cls ≠ "java/lang/invoke/VarHandle")
   {W : Nat} {Pre : Pt → Array Value → Prop} {Post : Pt → Array Value → Option Value → Pt → Prop} (hK : Back l R p e below s args y 3 W Pre Post)
   {g : JFrame} (hg : g.method = m) (hsize : g.locals.size = c.maxLocals) {s₀ : State} (hcome : Steps p.tables e below s₀ (T.setTop g)) {a : Addr} {argsL rest : List Value}
   (hlen : ∀ sig, parseMethodDescriptor y.desc = some sig → argsL.length = sig.parameters.length) (hstack : g.stack = argsL.reverse ++ .ref a :: rest) (hW : 2 * g.monitorRoom + (rest.map fun v => v.category).sum ≤ W)
   (hdg : decode c.code g.pc = .ok (.invokespecial index, 3)) (hpre : ∀ vm₁, s.WarmedH vm₁ → Pre ⟨T.setVm vm₁, locs, cells, slots⟩ (.ref a :: argsL).toArray) :
   ∃ (v : Option Value) (vm₁ : Vm) (B : Pt), s.WarmedH vm₁ ∧ Stand p l e R s m args below meth c B.U B.locs B.cells B.slots ∧ Post ⟨T.setVm vm₁, locs, cells, slots⟩ (.ref a :: argsL).toArray v B ∧
     Steps p.tables e below s₀ (B.U.setTop { g with pc := g.pc + 3, stack := v.toList ++ rest }) := by
 have hT : Z.Warmed39 T.vm := wtrans hZ X.warmed
 have hc : (Z.setVm T.vm).vm.findClass own = some m.cls := by
   show T.vm.findClass own = _
   rw [X.warmed.alike.findClass]; exact hown
 obtain ⟨obj, methO, hnO, hmO, hstO, habO⟩ := Cond.instanceMethod_spec hinst
 obtain ⟨methO', cO, hmO', hcO, hbO, hlO, -, hlockO, -, hsigO⟩ := Cond.code_spec hnO hcode
 cases hmO.symm.trans hmO'
 obtain ⟨kO, hkO, hnameO⟩ := className_of_methodNamed hnO
 obtain ⟨hnameMO, hdescO⟩ := name_of_methodNamed hnO hmO
 obtain ⟨mz, -, hnz, -⟩ := Cond.instanceMethod_spec wi
 obtain ⟨m', c', q1, q2, q3, q4⟩ := Cond.methodRef_named e hc (Cond.methodRef_warmed39 hT hnz hy w)
 have hfound : s.methodFound? y.cls y.name y.desc = some obj := State.methodFound?_of_named hnO hy
 have e1 : m' = obj := by
   have : (s.setVm T.vm).methodFound? y.cls y.name y.desc = some m' := q1
   rw [State.methodFound?_setVm X.warmed.alike] at this
   exact Option.some.inj (this.symm.trans hfound)
 subst e1
 have e2 : c' = m'.cls := by
   have q3' : T.vm.findClass y.cls = some c' := q3
   rw [X.warmed.alike.findClass, findClass_of_methodNamed hnO] at q3'
   exact (Option.some.inj q3').symm
 subst e2
 obtain ⟨kO₂, hkO₂, heO₂⟩ := X.warmed.alike.2.2 _ _ hkO
 have hmO₂ : T.vm.method? m' = some methO := by rw [X.warmed.alike.method?]; exact hmO
 have hfs : lookupSpecial T.vm m'.cls "<init>" methO.desc = .method m' := by
   rw [X.warmed.alike.lookupSpecial, hdescO, ← hy1]; exact lookupSpecial_of_named hnO hmO hstO
 obtain ⟨k0, cf0, ci0, nt0, r1, r2, r3, r4⟩ := q4
 obtain ⟨v, B, X', hpost, hsteps⟩ := hK m meth c ⟨T.setVm T.vm, locs, cells, slots⟩ { g with stack := rest } (.invokespecial index) m' (.ref a :: argsL).toArray X hg hsize hdg hW (X.named hnO) (hpre T.vm X.warmed)
 refine ⟨v, T.vm, B, X.warmed, X', hpost, hcome.trans (Steps.trans ?_ hsteps)⟩
 subst hg
 jvm_step X.here [hexec, hdg, invokespecial.wp_init (e := e) (s := T) (k := kO₂) (meth := methO) (m := m') (a := a) (args := argsL) (rest := rest) (f := g)
     X.here.top ⟨k0, cf0, ci0, nt0, r1, r2, r3, r4⟩ q2 hkO₂ hmO₂ (by rw [hnameMO]; exact hy1) hstO habO hfs (hlen _ hsigO) hstack]
 intro acts
 rw [doInvoke_state]; exact Steps.refl _
/-- 'invokevirtual' of a nest mate's private method -/
theorem own_privNest (X : Stand p l e R s m args below meth c T locs cells slots) (hexec : p.tables.exec = Jvm.exec) {own host : String} {index : Nat} {y : MethodName} {bytes : ByteArray} {maxL : Nat} {ret : Option FieldType}
   (hown : s.vm.findClass own = some m.cls) (hlink : (Cond.methodLinkNest own index y host).before args s = true) (hinst : (Cond.instanceMethod y).before args s = true) (hsel : (Cond.selects y.cls y y).before args s = true)
   (hpriv : s.PrivateAt y) (hcode : (Cond.code y bytes maxL ret).before args s = true) (hy : y.cls ≠ "java/lang/invoke/MethodHandle" ∧ y.cls ≠ "java/lang/invoke/VarHandle")
   {W : Nat} {Pre : Free.Pt → Array Value → Prop} {Post : Free.Pt → Array Value → Option Value → Free.Pt → Prop} (hK : Free.Back l R p e below s args y 3 W Pre Post)
   {g : JFrame} (hg : g.method = m) (hsize : g.locals.size = c.maxLocals) {s₀ : State} (hcome : Steps p.tables e below s₀ (T.setTop g)) {a : Addr} {cell : Cell} (hcell : T.heap[a]? = some cell) (hobj : ∀ q, cell.vm ≠ .statics q)
   {argsL rest : List Value} (hlen : ∀ sig, parseMethodDescriptor y.desc = some sig → argsL.length = sig.parameters.length)
   (hstack : g.stack = argsL.reverse ++ .ref a :: rest) (hW : 2 * g.monitorRoom + (rest.map fun v => v.category).sum ≤ W) (hdg : decode c.code g.pc = .ok (.invokevirtual index, 3))
   (hpre : ∀ vm₁, s.WarmedH vm₁ → Pre ⟨T.setVm vm₁, locs, cells, slots⟩ (.ref a :: argsL).toArray) :
   ∃ (v : Option Value) (vm₁ : Vm) (B : Free.Pt), s.WarmedH vm₁ ∧ Stand p l e R s m args below meth c B.U B.locs B.cells B.slots ∧ Post ⟨T.setVm vm₁, locs, cells, slots⟩ (.ref a :: argsL).toArray v B ∧
     Steps p.tables e below s₀ (B.U.setTop { g with pc := g.pc + 3, stack := v.toList ++ rest }) := by
 obtain ⟨mk, methM, hnamed, hmethM, hstM, habM⟩ := Cond.instanceMethod_spec hinst
 obtain ⟨methM', cM, hmethM', -, -, -, -, -, -, hsigM⟩ := Cond.code_spec hnamed hcode
 cases hmethM.symm.trans hmethM'
 obtain ⟨c2, r2, m2, -, -, q3, -, kP, hkP, hkPi⟩ := Cond.selects_spec hsel
 cases hnamed.symm.trans q3
 have hselP : selectMethod e.platform s.vm cell.cls mk = .method mk := selectMethod_private hmethM (hpriv mk methM hnamed hmethM)
 obtain ⟨vm₁, X₁, hstep₁⟩ := X.invokevirtualNest hexec hown hlink hnamed hmethM hstM hkP hkPi hy (a := a) (cell := cell) hcell hobj hselP hmethM habM hkP hkPi (g := g) hg (argsL := argsL) (rest := rest) (hlen _ hsigM) hstack hdg
 have hW₁ : s.WarmedH vm₁ := X₁.warmed
 obtain ⟨v, B, X', hpost, hsteps⟩ := hK m meth c ⟨T.setVm vm₁, locs, cells, slots⟩ { g with stack := rest } (.invokevirtual index) mk (.ref a :: argsL).toArray X₁ hg hsize hdg hW (X₁.named hnamed) (hpre vm₁ hW₁)
 exact ⟨v, vm₁, B, hW₁, X', hpost, (hcome.trans (hstep₁ _ fun acts => by rw [doInvoke_state]; exact Steps.refl _)).trans hsteps⟩
theorem own_mvNest {own host : String} {index : Nat} {y : MethodName} (hZ : Z.Warmed39 s.vm) (w : (Cond.methodLinkNest own index y host).before a0 Z = true) : (Cond.methodLinkNest own index y host).before args s = true := (Cond.methodLinkNest_wide hZ w :)
end OwnRef
section OwnRg
variable {Z : State} {h h' : Heap} {a b r : Addr} {n : Int32} {f : Nat → Value} {C D ad : String} {ws : List Addr} {sl : Nat} {v : Value}
theorem own_neE (A : Exa Z h a C) (B : Exa Z h b D) (q : C ≠ D) : a ≠ b := by
 rintro rfl
 obtain ⟨c1, k1, a1, a2, a3, -⟩ := A
 obtain ⟨c2, k2, b1, b2, b3, -⟩ := B
 cases a1.symm.trans b1
 obtain ⟨x1, y1, z1⟩ := Vm.findClass_spec a2
 obtain ⟨x2, y2, z2⟩ := Vm.findClass_spec b2
 cases y1.symm.trans y2
 exact q (z1.symm.trans z2)
def own_updV (f : Nat → Value) (j : Nat) (v : Value) : Nat → Value := fun i => if i = j then v else f i
def own_nulls : Nat → Value := fun _ => .null
/-- at r lies a C[] of length n, of exactly the class ad, whose places hold f -/
def own_Rg (Z : State) (h : Heap) (r : Addr) (C ad : String) (n : Int32) (f : Nat → Value) : Prop := ∃ k, Arv Z h r k (.object C) n ((List.range 16).map f) .null ∧ Ovr Z k C ∧ Exa Z h r ad ∧ n.toNatClampNeg ≤ 16
theorem own_rget (f : Nat → Value) {i : Nat} (hi : i < 16) : ((List.range 16).map f).getD i .null = f i := by
 simp only [List.getD, List.getElem?_map, List.getElem?_range hi]; rfl
theorem own_Rg.ext (F : own_Rg Z h r C ad n f) (E : Ext h h') : own_Rg Z h' r C ad n f := by obtain ⟨k, A, O, X, q⟩ := F; exact ⟨k, A.ext E, O, X.ext E, q⟩
theorem own_Rg.other (F : own_Rg Z h r C ad n f) (W : Wr h h' a sl v) (q : r ≠ a) : own_Rg Z h' r C ad n f := by obtain ⟨k, A, O, X, q'⟩ := F; exact ⟨k, A.other W q, O, X.wr W, q'⟩
theorem own_Rg.keep (F : own_Rg Z h r C ad n f) (K : Keep h h' ws) (q : r ∉ ws) : own_Rg Z h' r C ad n f := by obtain ⟨k, A, O, X, q'⟩ := F; exact ⟨k, A.keep K q, O, X.keep K, q'⟩
theorem own_Rg.lt (F : own_Rg Z h r C ad n f) : r < h.size := by obtain ⟨k, A, -⟩ := F; exact A.lt
theorem own_Rg.exa (F : own_Rg Z h r C ad n f) : Exa Z h r ad := by obtain ⟨k, A, O, X, -⟩ := F; exact X
theorem own_Rg.nn (F : own_Rg Z h r C ad n f) : ¬ n < 0 := by obtain ⟨k, ⟨c, A, r1, r2, r3, -⟩, -⟩ := F; exact r3
theorem own_Rg.opened (F : own_Rg Z h r C ad n f) : ∃ cl : Cell, Arr Z h r cl (.object C) ∧ cl.slots.size = n.toNatClampNeg ∧ ¬ n < 0 ∧ Ovr Z cl.cls C ∧ ∀ j : Int32, ¬ (j < 0 ∨ cl.slots.size ≤ j.toNatClampNeg) → cl.slots[j.toNatClampNeg]? = some (f j.toNatClampNeg) := by
 obtain ⟨k, ⟨c, A, r1, r2, r3, H, G⟩, O, X, q⟩ := F
 refine ⟨c, A, r2, r3, r1 ▸ O, fun j hj => ?_⟩
 have hlt : j.toNatClampNeg < c.slots.size := Nat.lt_of_not_le fun y => hj (Or.inr y)
 rw [H _ hlt, own_rget f (by omega)]
theorem own_Rg.new {k : ClassId} (A : Arr Z h r (newA k (.object C) n) (.object C)) (O : Ovr Z k C) (X : Exa Z h r ad) (q : ¬ n < 0) (q2 : n.toNatClampNeg ≤ 16) : own_Rg Z h r C ad n own_nulls := by
 refine ⟨k, (Arv.new A q).pad fun i => ?_, O, X, q2⟩
 by_cases hi : i < 16
 · exact (own_rget own_nulls hi).trans rfl
 · have : ((List.range 16).map own_nulls).length ≤ i := by simp; omega
   simp only [List.getD, List.getElem?_eq_none this]; rfl
theorem own_Rg.set {j : Int32} (F : own_Rg Z h r C ad n f) (W : Wr h h' r j.toNatClampNeg v) (hj : ¬ j < 0 ∧ j < n) (hv : fits (.object C) v = true) : own_Rg Z h' r C ad n (own_updV f j.toNatClampNeg v) := by
 obtain ⟨k, ⟨c, A, r1, r2, r3, H, G⟩, O, X, q⟩ := F
 have hin := inb_of r2 hj
 have hlt : j.toNatClampNeg < n.toNatClampNeg := by rw [← r2]; exact Nat.lt_of_not_le fun y => hin (Or.inr y)
 refine ⟨k, (Arv.set A r1 r2 r3 H G hv W j.toNatClampNeg rfl (by simp; omega)).pad fun i => ?_, O, X.wr W, q⟩
 simp only [List.getD, List.getElem?_set, List.getElem?_map, List.length_map, List.length_range]
 by_cases e : j.toNatClampNeg = i
 · subst e
   simp [own_updV, List.getElem?_range (show j.toNatClampNeg < 16 by omega), show j.toNatClampNeg < 16 by omega]
 · rw [if_neg e]
   by_cases hi : i < 16
   · simp only [List.getElem?_range hi, Option.map_some, own_updV, if_neg (fun q : i = j.toNatClampNeg => e q.symm)]
   · rw [List.getElem?_eq_none (by simp; omega)]; rfl
theorem own_Rg.congr {g : Nat → Value} (F : own_Rg Z h r C ad n f) (q : ∀ i, i < n.toNatClampNeg → f i = g i) : own_Rg Z h r C ad n g := by
 obtain ⟨k, ⟨c, A, r1, r2, r3, H, G⟩, O, X, q'⟩ := F
 refine ⟨k, ⟨c, A, r1, r2, r3, fun i hi => ?_, fun i hi => ?_⟩, O, X, q'⟩
 · rw [H i hi, own_rget f (by omega), own_rget g (by omega), q i (by omega)]
 · have := G i hi
   rw [own_rget f (by omega)] at this
   rw [own_rget g (by omega), ← q i (by omega)]; exact this
end OwnRg
section OwnMisc
variable {p : Program} {l : Launch} {e : Env} {R : Room} {s : State} {m : MethodId} {args : Array Value} {below : List Frame} {meth : Method} {c : Code} {T : State} {locs : List Loc} {cells slots : Nat} {Z : State} {h : Heap} {a0 : Array Value}
theorem own_dup2x1 {tb : Tables} [Ours tb] {target : State} {g : JFrame} (h : At T m c below) (hx : tb.exec = Jvm.exec) (hg : g.method = m) {x : Int64} {y : Value} {rest : List Value} (hd : decode c.code g.pc = .ok (.dup2_x1, 1)) (hs : g.stack = .long x :: y :: rest) (hc : y.category = 1)
   (hr : Steps tb e below (T.setTop { g with pc := g.pc + 1, stack := .long x :: y :: .long x :: rest }) target) : Steps tb e below (T.setTop g) target := by
 subst hg
 have hc1 : (Value.long x).category = 2 := rfl
 jvm_step h [h.top, hx, hd, hs, hc, hc1, Op.dup2_x1.wp_sem]
 exact hr
theorem own_same (s : State) : s.sameButNew s [] 0 0 := by
 cases hx : s.threads[s.cur]? with
 | some x => exact State.sameButNew.refl s hx
 | none =>
   have q : s.threads.modify s.cur (fun t => { t with frames := s.frames }) = s.threads := by
     have hle := Array.getElem?_eq_none_iff.mp hx
     refine Array.ext (by simp) fun i h1 h2 => ?_
     rw [Array.getElem_modify, if_neg (by omega)]
   have hd : ((s.heap.toList.drop s.heap.size).map (·.slots.size)).sum = 0 := by
     rw [List.drop_of_length_le (by exact Nat.le_of_eq (Array.length_toList))]; rfl
   refine ⟨?_, Nat.le_refl _, Nat.le_refl _, by rw [hd]; rfl, by rw [hd]; exact Nat.le_refl 0, fun a c h => ⟨c, h, rfl, rfl, fun i _ => rfl⟩⟩
   simp only [State.setFrames, q]
theorem own_site (hH : Z.WarmedH s.vm) {x : MethodName} {pc index : Nat} {σ : Lambda.Shape} (w : (Cond.lambdaSite x pc index σ).before a0 Z = true) (hcap : σ.captured ≠ []) : (Cond.lambdaSite x pc index σ).before args s = true := by
 obtain ⟨cK, one, hat⟩ := Cond.lambdaSite_spec w
 have h2 := State.lambdaAt?_rides (s := Z) (t := Z.setVm s.vm) (L := []) (k := 0) (n := 0) hH (own_same Z) hat
 obtain ⟨m, k, cf, i0, p0, l, hm, hk, hcf, hsh, hin, hfind, hmade, hcall, hl⟩ := State.lambdaAt?_spec h2
 obtain ⟨m2, k2, hm2, hk2, hjdk, howes⟩ := State.lambdaAt?_road h2
 cases hm.symm.trans hm2
 cases hk.symm.trans hk2
 have hm' : s.methodNamed? x = some m := hm
 have hk' : s.vm.classes[m.cls]? = some k := hk
 have hany : ((Lambda.sitesOf k).any fun y => decide (y = (m.idx, pc, index, σ))) = true := by simpa using hin
 have hmade' : Lambda.isMade { classPath := fun _ => none } s.vm m.cls σ cK = true := hmade
 have hcall' : s.lambdaCallable σ cK = true := hcall
 have howes' : (s.vm.findClass σ.iface).bind (Lambda.owesInit s.vm) = none := howes
 rcases hl with ⟨a, cell, -, -, hc0, -⟩ | ⟨rfl, rfl, -⟩
 · exact absurd hc0 hcap
 · have : s.lambdaAt? x pc index σ = some (cK, none) := by simp [State.lambdaAt?, guard, hjdk, howes', hm', hk', hcf, hsh, hany, hfind, hcap, hmade', hcall']
   simp [Cond.before, Cond.holds, Cond.value, this]
theorem own_lam (X : Stand p l e R s m args below meth c T locs cells slots) (hx : p.tables.exec = Jvm.exec) (hZ : Z.Warmed39 s.vm) (hH : Z.WarmedH s.vm) {x : MethodName} {pc index fi : Nat} {σ : Lambda.Shape} (hnamed : s.methodNamed? x = some m) {t : FieldType} {a : Addr}
   (w : (Cond.lambdaSite x pc index σ).before a0 Z = true) (hcap : σ.captured = [t]) (ht : t.isReference = true) (hok : LamKit.capOK σ x.cls fi 0 = true) (hO : (Cond.instantiable "java/lang/Object" 0).before a0 Z = true) (eT : T.heap = h)
   {g : JFrame} (hg : g.method = m) (hpc : g.pc = pc) (hsize : g.locals.size = c.maxLocals) (hd : decode c.code g.pc = .ok (.invokedynamic index, 5)) {rest : List Value} (hs : g.stack = .ref a :: rest) (hmr : g.monitorRoom = 0) {W : Nat} (hW : (g.stack.map fun v => v.category).sum ≤ W) (hwd : W + 3072 ≤ R.locals) (hc : cells + 1 ≤ R.cells) (hl : slots + 1 ≤ R.slots) :
   ∃ T' h', Stand p l e R s m args below meth c T' locs (cells + 1) (slots + 1) ∧ T'.heap = h' ∧ Ext h h' ∧ h.size < h'.size ∧
     ∀ target, Steps p.tables e below (T'.setTop { g with pc := g.pc + 5, stack := .ref h.size :: rest }) target → Steps p.tables e below (T.setTop g) target := by
 obtain ⟨cK, -, X', st⟩ := LamKit.siteMakes X hx hnamed (own_site hH w (by rw [hcap]; simp)) (by rw [hcap]; simp) hok (mvT hZ hO) hg hpc hsize hd (vals := [.ref a]) (rest := rest) (by rw [hcap]; rfl) hs (fun i t' v h1 h2 => by
   rw [hcap] at h1
   cases i with
   | zero =>
     simp only [List.getElem?_cons_zero, Option.some.injEq] at h1 h2
     subst h2
     rw [← h1]
     cases t <;> first | exact ⟨rfl, rfl⟩ | (simp [FieldType.isReference] at ht)
   | succ i => simp at h1) (by rw [hmr]; omega) hc hl
 subst eT
 exact ⟨_, _, X', rfl, ext_of fun a q => Array.getElem?_push_lt q |>.trans (Array.getElem?_eq_getElem q).symm, by show _ < (T.heap.push _).size; simp, st⟩
theorem own_backH {y : MethodName} {bytes : ByteArray} {maxL : Nat} {ret : Option FieldType} {rm : Room} {len W : Nat} {as' : Array Value} {Q : Option Value → Heap → List Loc → Prop}
   (hM : MetFree l y (head1 [Jvm.Cond.code y bytes maxL ret] rm) (fun a U => a = as' ∧ Z.Warmed39 U.vm ∧ U.heap = h ∧ Z.WarmedH U.vm) (fun _ _ _ _ _ => True) (fun _ U o U' => ∃ v L, o = .returned v ∧ Q v U'.heap L ∧ FrameEnd U o U' L rm.cells rm.slots))
   (hZ : Z.Warmed39 s.vm) (hH : Z.WarmedH s.vm) (wc : (Jvm.Cond.code y bytes maxL ret).before a0 Z = true) (wz : (Jvm.Cond.initialized y.cls).before a0 Z = true) (hf : rm.frames + 1 ≤ R.frames) (hl : W + (maxL + 11) + rm.locals ≤ R.locals) :
   Back l R p e below s args y len W (fun A a => a = as' ∧ A.U.heap = h ∧ A.cells + rm.cells ≤ R.cells ∧ A.slots + rm.slots ≤ R.slots)
     (fun A _ v B => ∃ L, Q v B.U.heap L ∧ B.locs = A.locs ++ L ∧ B.cells = A.cells + rm.cells ∧ B.slots = A.slots + rm.slots) := by
 refine Back.of_free (bytes := bytes) (maxL := maxL) (ret := ret) (E := fun _ _ o t L k n => k = rm.cells ∧ n = rm.slots ∧ ∃ v, o = .returned v ∧ Q v t.heap L) hM hf hl ?_ ?_ ?_ ?_ ?_
 · intro m meth c A a Y hp
   have hU : Z.Warmed39 A.U.vm := wtrans hZ Y.warmed
   exact ⟨by show (Jvm.Cond.and _ .tt).before a A.U = true; rw [Cond.before_and, mv hU wc]; rfl, mv hU wc, mv hU wz, hp.2.2.1, hp.2.2.2⟩
 · intro m meth c A a g mk Y hp
   exact ⟨hp.1, wtrans hZ Y.warmed, hp.2.1, State.WarmedH.trans hH Y.warmed⟩
 · intros; trivial
 · rintro a first o t ⟨v, L, h1, h2, h3⟩
   exact ⟨L, _, _, h3, rfl, rfl, v, h1, h2⟩
 · rintro m meth c A a g mk v t L k n Y hp - - ⟨e1, e2, v', e3, e4⟩
   cases e3
   subst e1 e2
   exact ⟨L, e4, rfl, rfl, rfl⟩
end OwnMisc

abbrev own_RO (Z : State) (h : Heap) (r : Addr) (n : Int32) (f : Nat → Value) : Prop := own_Rg Z h r "java/lang/Object" "[Ljava/lang/Object;" n f
abbrev own_RE (Z : State) (h : Heap) (r : Addr) (n : Int32) (f : Nat → Value) : Prop := own_Rg Z h r "com/example/lockstep/lockstep/session/Event" "[Lcom/example/lockstep/lockstep/session/Event;" n f
def own_Ev (Z : State) (h : Heap) (e_ b_ : Addr) (sq : Int64) (n : Int32) : Prop := oX1 Z h e_ ∧ oF0 Z h e_ (.long sq) ∧ oF1 Z h e_ (.ref b_) ∧ own_By Z h b_ n own_zero
def own_Rm (Z : State) (h : Heap) (aR aS aL aA : Addr) (bd hv : Int64) (sl n : Int32) : Prop := ∃ (mv md : Int64) (mc : Int32), oX2 Z h aR ∧ oF2 Z h aR (.long bd) ∧ oF3 Z h aR (.ref aL) ∧ oF4 Z h aR (.long hv) ∧ oF5 Z h aR (.long mv) ∧ oX3 Z h aS ∧ oF6 Z h aS (.ref aR) ∧ oF7 Z h aS (.long hv) ∧ oF8 Z h aS (.long md) ∧ oF9 Z h aS (.int sl) ∧ oX4 Z h aL ∧ oF10 Z h aL (.ref aA) ∧ oF11 Z h aL (.int n) ∧ oF12 Z h aL (.int mc)
theorem own_Ev.ext {Z : State} {h h' : Heap} {e_ : Addr} {b_ : Addr} {sq : Int64} {n : Int32} (F : own_Ev Z h e_ b_ sq n) (E : Ext h h') : own_Ev Z h' e_ b_ sq n := by obtain ⟨k0, k1, k2, k3⟩ := F; exact ⟨k0.ext E, k1.ext E, k2.ext E, k3.ext E⟩
theorem own_Ev.other {Z : State} {h h' : Heap} {e_ : Addr} {b_ : Addr} {sq : Int64} {n : Int32} (F : own_Ev Z h e_ b_ sq n) {a : Addr} {sl' : Nat} {v : Value} (W : Wr h h' a sl' v) (q0 : e_ ≠ a) (q1 : b_ ≠ a) : own_Ev Z h' e_ b_ sq n := by obtain ⟨k0, k1, k2, k3⟩ := F; exact ⟨k0.wr W, k1.other W (Or.inl q0), k2.other W (Or.inl q0), k3.other W q1⟩
theorem own_Ev.keep {Z : State} {h h' : Heap} {e_ : Addr} {b_ : Addr} {sq : Int64} {n : Int32} (F : own_Ev Z h e_ b_ sq n) {ws : List Addr} (K : Keep h h' ws) (q0 : e_ ∉ ws) (q1 : b_ ∉ ws) : own_Ev Z h' e_ b_ sq n := by obtain ⟨k0, k1, k2, k3⟩ := F; exact ⟨k0.keep K, k1.keep K q0, k2.keep K q0, k3.keep K q1⟩
theorem own_Rm.ext {Z : State} {h h' : Heap} {aR : Addr} {aS : Addr} {aL : Addr} {aA : Addr} {bd : Int64} {hv : Int64} {sl : Int32} {n : Int32} (F : own_Rm Z h aR aS aL aA bd hv sl n) (E : Ext h h') : own_Rm Z h' aR aS aL aA bd hv sl n := by obtain ⟨x0, x1, x2, k0, k1, k2, k3, k4, k5, k6, k7, k8, k9, k10, k11, k12, k13⟩ := F; exact ⟨x0, x1, x2, k0.ext E, k1.ext E, k2.ext E, k3.ext E, k4.ext E, k5.ext E, k6.ext E, k7.ext E, k8.ext E, k9.ext E, k10.ext E, k11.ext E, k12.ext E, k13.ext E⟩
theorem own_Rm.other {Z : State} {h h' : Heap} {aR : Addr} {aS : Addr} {aL : Addr} {aA : Addr} {bd : Int64} {hv : Int64} {sl : Int32} {n : Int32} (F : own_Rm Z h aR aS aL aA bd hv sl n) {a : Addr} {sl' : Nat} {v : Value} (W : Wr h h' a sl' v) (q0 : aR ≠ a) (q1 : aS ≠ a) (q2 : aL ≠ a) : own_Rm Z h' aR aS aL aA bd hv sl n := by obtain ⟨x0, x1, x2, k0, k1, k2, k3, k4, k5, k6, k7, k8, k9, k10, k11, k12, k13⟩ := F; exact ⟨x0, x1, x2, k0.wr W, k1.other W (Or.inl q0), k2.other W (Or.inl q0), k3.other W (Or.inl q0), k4.other W (Or.inl q0), k5.wr W, k6.other W (Or.inl q1), k7.other W (Or.inl q1), k8.other W (Or.inl q1), k9.other W (Or.inl q1), k10.wr W, k11.other W (Or.inl q2), k12.other W (Or.inl q2), k13.other W (Or.inl q2)⟩
theorem own_Rm.keep {Z : State} {h h' : Heap} {aR : Addr} {aS : Addr} {aL : Addr} {aA : Addr} {bd : Int64} {hv : Int64} {sl : Int32} {n : Int32} (F : own_Rm Z h aR aS aL aA bd hv sl n) {ws : List Addr} (K : Keep h h' ws) (q0 : aR ∉ ws) (q1 : aS ∉ ws) (q2 : aL ∉ ws) : own_Rm Z h' aR aS aL aA bd hv sl n := by obtain ⟨x0, x1, x2, k0, k1, k2, k3, k4, k5, k6, k7, k8, k9, k10, k11, k12, k13⟩ := F; exact ⟨x0, x1, x2, k0.keep K, k1.keep K q0, k2.keep K q0, k3.keep K q0, k4.keep K q0, k5.keep K, k6.keep K q1, k7.keep K q1, k8.keep K q1, k9.keep K q1, k10.keep K, k11.keep K q2, k12.keep K q2, k13.keep K q2⟩
theorem own_By.exa {Z : State} {h : Heap} {b : Addr} {n : Int32} {g : Nat → Int32} (F : own_By Z h b n g) : oX0 Z h b := by obtain ⟨k, A, X⟩ := F; exact X
theorem own_Ev.exB {Z : State} {h : Heap} {e_ b_ : Addr} {sq : Int64} {n : Int32} (F : own_Ev Z h e_ b_ sq n) : oX0 Z h b_ := F.2.2.2.exa
theorem own_Rm.exR {Z : State} {h : Heap} {aR aS aL aA : Addr} {bd hv : Int64} {sl n : Int32} (F : own_Rm Z h aR aS aL aA bd hv sl n) : oX2 Z h aR := by obtain ⟨_, _, _, k0, k1, k2, k3, k4, k5, k6, k7, k8, k9, k10, k11, k12, k13⟩ := F; exact k0
theorem own_Rm.exS {Z : State} {h : Heap} {aR aS aL aA : Addr} {bd hv : Int64} {sl n : Int32} (F : own_Rm Z h aR aS aL aA bd hv sl n) : oX3 Z h aS := by obtain ⟨_, _, _, k0, k1, k2, k3, k4, k5, k6, k7, k8, k9, k10, k11, k12, k13⟩ := F; exact k5
theorem own_Rm.exL {Z : State} {h : Heap} {aR aS aL aA : Addr} {bd hv : Int64} {sl n : Int32} (F : own_Rm Z h aR aS aL aA bd hv sl n) : oX4 Z h aL := by obtain ⟨_, _, _, k0, k1, k2, k3, k4, k5, k6, k7, k8, k9, k10, k11, k12, k13⟩ := F; exact k10
theorem own_sn0 {a : String} : a ∉ ([] : List String) := by simp
theorem own_sni {a b : String} {L : List String} (h : a ≠ b) (r : a ∉ L) : a ∉ b :: L := fun q => (List.mem_cons.mp q).elim h r
def own_exs (Z : State) (h : Heap) : List Addr → List String → Prop
 | [], [] => True
 | a :: as, c :: cs => Exa Z h a c ∧ own_exs Z h as cs
 | _, _ => False
theorem own_nin {Z : State} {h : Heap} {o : Addr} {C : String} (A : Exa Z h o C) : ∀ {ws : List Addr} {cs : List String}, own_exs Z h ws cs → C ∉ cs → o ∉ ws
 | [], _, _, _ => by simp
 | w :: ws, c :: cs, ⟨x, r⟩, q => by
   intro hm
   rcases List.mem_cons.mp hm with rfl | hm
   · exact own_neE A x (fun e => q (e ▸ List.mem_cons_self)) rfl
   · exact own_nin A r (fun e => q (List.mem_cons_of_mem _ e)) hm
 | _ :: _, [], r, _ => r.elim
section OwnSn
variable {Z : State} {a0 : Array Value}
theorem own_snL {C O n d O' n' d' : String} {t t' : FieldType} (hw : oW a0 Z) (i j : Nat) (e1 : parseFieldDescriptor d = some t) (e2 : parseFieldDescriptor d' = some t') (w : tables_1[i]? = some (.lays C O n d) := by rfl) (w' : tables_1[j]? = some (.lays C O' n' d') := by rfl) (hn : n ≠ n' := by decide +kernel) : Jvm.RoadKit.slotOf Z O n d ≠ Jvm.RoadKit.slotOf Z O' n' d' :=
 slot_ne (Or.inl (hw _ (List.mem_of_getElem? w))) (Or.inl (hw _ (List.mem_of_getElem? w'))) hn e1 e2
theorem own_snLF {C O n d O' n' d' : String} {t t' : FieldType} (hw : oW a0 Z) (i j : Nat) (e1 : parseFieldDescriptor d = some t) (e2 : parseFieldDescriptor d' = some t') (w : tables_1[i]? = some (.lays C O n d) := by rfl) (w' : tables_1[j]? = some (.laysFinal C O' n' d') := by rfl) (hn : n ≠ n' := by decide +kernel) : Jvm.RoadKit.slotOf Z O n d ≠ Jvm.RoadKit.slotOf Z O' n' d' :=
 slot_ne (Or.inl (hw _ (List.mem_of_getElem? w))) (Or.inr (hw _ (List.mem_of_getElem? w'))) hn e1 e2
theorem own_snF {C O n d O' n' d' : String} {t t' : FieldType} (hw : oW a0 Z) (i j : Nat) (e1 : parseFieldDescriptor d = some t) (e2 : parseFieldDescriptor d' = some t') (w : tables_1[i]? = some (.laysFinal C O n d) := by rfl) (w' : tables_1[j]? = some (.lays C O' n' d') := by rfl) (hn : n ≠ n' := by decide +kernel) : Jvm.RoadKit.slotOf Z O n d ≠ Jvm.RoadKit.slotOf Z O' n' d' :=
 slot_ne (Or.inr (hw _ (List.mem_of_getElem? w))) (Or.inl (hw _ (List.mem_of_getElem? w'))) hn e1 e2
theorem own_snFF {C O n d O' n' d' : String} {t t' : FieldType} (hw : oW a0 Z) (i j : Nat) (e1 : parseFieldDescriptor d = some t) (e2 : parseFieldDescriptor d' = some t') (w : tables_1[i]? = some (.laysFinal C O n d) := by rfl) (w' : tables_1[j]? = some (.laysFinal C O' n' d') := by rfl) (hn : n ≠ n' := by decide +kernel) : Jvm.RoadKit.slotOf Z O n d ≠ Jvm.RoadKit.slotOf Z O' n' d' :=
 slot_ne (Or.inr (hw _ (List.mem_of_getElem? w))) (Or.inr (hw _ (List.mem_of_getElem? w'))) hn e1 e2
end OwnSn
section OwnNF
variable {p : Program} {l : Launch} {e : Env} {R : Room} {s : State} {m : MethodId} {args : Array Value} {below : List Frame} {meth : Method} {c : Code} {T : State} {locs : List Loc} {cells slots : Nat} {F₀ : State → Outcome → Prop} {code : ByteArray} {pc : Nat} {Ls : Array Slot} {S rest : List Value} {Z : State} {a0 : Array Value} {h : Heap}
theorem o_al (X : Stand p l e R s m args below meth c T locs cells slots) (hx : p.tables.exec = Jvm.exec) (hby : c.code = code) {k : Fin 4} {v : Value} (hd : decode code pc = .ok (.aload_n k, 1))  (κ : oG p e below F₀ (T.setTop (mkF m (pc + 1) Ls (v :: S)))) (hl : Ls[k.val]? = some (.val v) := by rfl) (hv : v.isRef = true := by rfl) : oG p e below F₀ (T.setTop (mkF m pc Ls S)) :=
 oS (fun _ q => XS.aloadN X.here hx rfl (hb hby hd) hl hv q) κ
theorem o_aw (X : Stand p l e R s m args below meth c T locs cells slots) (hx : p.tables.exec = Jvm.exec) (hby : c.code = code) {k : Nat} {v : Value} (hd : decode code pc = .ok (.aload k, 2))  (κ : oG p e below F₀ (T.setTop (mkF m (pc + 2) Ls (v :: S)))) (hl : Ls[k]? = some (.val v) := by rfl) (hv : v.isRef = true := by rfl) : oG p e below F₀ (T.setTop (mkF m pc Ls S)) :=
 oS (fun _ q => XS.aload X.here hx rfl (hb hby hd) hl hv q) κ
theorem o_il (X : Stand p l e R s m args below meth c T locs cells slots) (hx : p.tables.exec = Jvm.exec) (hby : c.code = code) {k : Fin 4} {v : Int32} (hd : decode code pc = .ok (.iload_n k, 1))  (κ : oG p e below F₀ (T.setTop (mkF m (pc + 1) Ls (.int v :: S)))) (hl : Ls[k.val]? = some (vI v) := by rfl) : oG p e below F₀ (T.setTop (mkF m pc Ls S)) :=
 oS (fun _ q => XS.iloadN X.here hx rfl (hb hby hd) hl q) κ
theorem o_iw (X : Stand p l e R s m args below meth c T locs cells slots) (hx : p.tables.exec = Jvm.exec) (hby : c.code = code) {k : Nat} {v : Int32} (hd : decode code pc = .ok (.iload k, 2))  (κ : oG p e below F₀ (T.setTop (mkF m (pc + 2) Ls (.int v :: S)))) (hl : Ls[k]? = some (vI v) := by rfl) : oG p e below F₀ (T.setTop (mkF m pc Ls S)) :=
 oS (fun _ q => XS.iload X.here hx rfl (hb hby hd) hl q) κ
theorem o_ll (X : Stand p l e R s m args below meth c T locs cells slots) (hx : p.tables.exec = Jvm.exec) (hby : c.code = code) {k : Fin 4} {v : Int64} (hd : decode code pc = .ok (.lload_n k, 1))  (κ : oG p e below F₀ (T.setTop (mkF m (pc + 1) Ls (.long v :: S)))) (hl : Ls[k.val]? = some (vJ v) := by rfl) : oG p e below F₀ (T.setTop (mkF m pc Ls S)) :=
 oS (fun _ q => XS.lloadN X.here hx rfl (hb hby hd) hl q) κ
theorem o_lw (X : Stand p l e R s m args below meth c T locs cells slots) (hx : p.tables.exec = Jvm.exec) (hby : c.code = code) {k : Nat} {v : Int64} (hd : decode code pc = .ok (.lload k, 2))  (κ : oG p e below F₀ (T.setTop (mkF m (pc + 2) Ls (.long v :: S)))) (hl : Ls[k]? = some (vJ v) := by rfl) : oG p e below F₀ (T.setTop (mkF m pc Ls S)) :=
 oS (fun _ q => XS.lload X.here hx rfl (hb hby hd) hl q) κ
theorem o_ic (X : Stand p l e R s m args below meth c T locs cells slots) (hx : p.tables.exec = Jvm.exec) (hby : c.code = code) {i : Int} (z : Int32) (hd : decode code pc = .ok (.iconst i, 1)) (κ : oG p e below F₀ (T.setTop (mkF m (pc + 1) Ls (.int z :: S)))) (hz : Int32.ofInt i = z := by rfl) : oG p e below F₀ (T.setTop (mkF m pc Ls S)) := by
 subst hz
 exact oS (fun _ q => XS.iconst X.here hx rfl (hb hby hd) q) κ
theorem o_bp (X : Stand p l e R s m args below meth c T locs cells slots) (hx : p.tables.exec = Jvm.exec) (hby : c.code = code) {i : Int} (z : Int32) (hd : decode code pc = .ok (.bipush i, 2)) (κ : oG p e below F₀ (T.setTop (mkF m (pc + 2) Ls (.int z :: S)))) (hz : (Int8.ofInt i).toInt32 = z := by rfl) : oG p e below F₀ (T.setTop (mkF m pc Ls S)) := by
 subst hz
 exact oS (fun _ q => XS.bipush X.here hx rfl (hb hby hd) q) κ
theorem o_lc (X : Stand p l e R s m args below meth c T locs cells slots) (hx : p.tables.exec = Jvm.exec) (hby : c.code = code) {i : Fin 2} (z : Int64) (hd : decode code pc = .ok (.lconst i, 1)) (κ : oG p e below F₀ (T.setTop (mkF m (pc + 1) Ls (.long z :: S)))) (hz : Int64.ofNat i = z := by rfl) : oG p e below F₀ (T.setTop (mkF m pc Ls S)) := by
 subst hz
 exact oS (fun _ q => XS.lconst X.here hx rfl (hb hby hd) q) κ
theorem o_an (X : Stand p l e R s m args below meth c T locs cells slots) (hx : p.tables.exec = Jvm.exec) (hby : c.code = code)  (hd : decode code pc = .ok (.aconst_null, 1))  (κ : oG p e below F₀ (T.setTop (mkF m (pc + 1) Ls (.null :: S))))  : oG p e below F₀ (T.setTop (mkF m pc Ls S)) :=
 oS (fun _ q => XS.aconstNull X.here hx rfl (hb hby hd)  q) κ
theorem o_is (X : Stand p l e R s m args below meth c T locs cells slots) (hx : p.tables.exec = Jvm.exec) (hby : c.code = code) {k : Fin 4} {x : Int32} (hd : decode code pc = .ok (.istore_n k, 1)) (L' : Array Slot) (κ : oG p e below F₀ (T.setTop (mkF m (pc + 1) L' S))) (hl : storeLocals Ls k.val (.int x) = some L' := by rfl) : oG p e below F₀ (T.setTop (mkF m pc Ls ((.int x) :: S))) :=
 oS (fun _ q => XS.istoreN X.here hx rfl (hb hby hd) rfl hl q) κ
theorem o_isw (X : Stand p l e R s m args below meth c T locs cells slots) (hx : p.tables.exec = Jvm.exec) (hby : c.code = code) {k : Nat} {x : Int32} (hd : decode code pc = .ok (.istore k, 2)) (L' : Array Slot) (κ : oG p e below F₀ (T.setTop (mkF m (pc + 2) L' S))) (hl : storeLocals Ls k (.int x) = some L' := by rfl) : oG p e below F₀ (T.setTop (mkF m pc Ls ((.int x) :: S))) :=
 oS (fun _ q => XS.istore X.here hx rfl (hb hby hd) rfl hl q) κ
theorem o_as (X : Stand p l e R s m args below meth c T locs cells slots) (hx : p.tables.exec = Jvm.exec) (hby : c.code = code) {k : Fin 4} {x : Value} (hd : decode code pc = .ok (.astore_n k, 1)) (L' : Array Slot) (κ : oG p e below F₀ (T.setTop (mkF m (pc + 1) L' S))) (hv : x.isRef = true := by rfl) (hl : storeLocals Ls k.val x = some L' := by rfl) : oG p e below F₀ (T.setTop (mkF m pc Ls (x :: S))) :=
 oS (fun _ q => XS.astoreN X.here hx rfl (hb hby hd) rfl hv hl q) κ
theorem o_asw (X : Stand p l e R s m args below meth c T locs cells slots) (hx : p.tables.exec = Jvm.exec) (hby : c.code = code) {k : Nat} {x : Value} (hd : decode code pc = .ok (.astore k, 2)) (L' : Array Slot) (κ : oG p e below F₀ (T.setTop (mkF m (pc + 2) L' S))) (hv : x.isRef = true := by rfl) (hl : storeLocals Ls k x = some L' := by rfl) : oG p e below F₀ (T.setTop (mkF m pc Ls (x :: S))) :=
 oS (fun _ q => XS.astore X.here hx rfl (hb hby hd) rfl hv hl q) κ
theorem o_ls (X : Stand p l e R s m args below meth c T locs cells slots) (hx : p.tables.exec = Jvm.exec) (hby : c.code = code) {k : Fin 4} {x : Int64} (hd : decode code pc = .ok (.lstore_n k, 1)) (L' : Array Slot) (κ : oG p e below F₀ (T.setTop (mkF m (pc + 1) L' S))) (hl : storeLocals Ls k.val (.long x) = some L' := by rfl) : oG p e below F₀ (T.setTop (mkF m pc Ls ((.long x) :: S))) :=
 oS (fun _ q => XS.lstoreN X.here hx rfl (hb hby hd) rfl hl q) κ
theorem o_lsw (X : Stand p l e R s m args below meth c T locs cells slots) (hx : p.tables.exec = Jvm.exec) (hby : c.code = code) {k : Nat} {x : Int64} (hd : decode code pc = .ok (.lstore k, 2)) (L' : Array Slot) (κ : oG p e below F₀ (T.setTop (mkF m (pc + 2) L' S))) (hl : storeLocals Ls k (.long x) = some L' := by rfl) : oG p e below F₀ (T.setTop (mkF m pc Ls ((.long x) :: S))) :=
 oS (fun _ q => XS.lstore X.here hx rfl (hb hby hd) rfl hl q) κ
theorem o_gt (X : Stand p l e R s m args below meth c T locs cells slots) (hx : p.tables.exec = Jvm.exec) (hby : c.code = code) {o : Int} (hd : decode code pc = .ok (.goto o, 3)) (pc' : Nat) (κ : oG p e below F₀ (T.setTop (mkF m pc' Ls S))) (ho : 0 ≤ (pc : Int) + o := by decide) (hp : ((pc : Int) + o).toNat = pc' := by decide) : oG p e below F₀ (T.setTop (mkF m pc Ls S)) :=
 oS (fun _ q => XS.goto X.here hx rfl (pc0 := pc) (pc' := pc') rfl (hb hby hd) ho hp q) κ
theorem o_iy (X : Stand p l e R s m args below meth c T locs cells slots) (hx : p.tables.exec = Jvm.exec) (hby : c.code = code) {cd : ClassFile.Cond} {x : Int32} {o : Int} (hd : decode code pc = .ok (.ifCond cd o, 3)) (pc' : Nat) (hc : ifCond.holds cd x = true) (κ : oG p e below F₀ (T.setTop (mkF m pc' Ls S))) (ho : 0 ≤ (pc : Int) + o := by decide) (hp : ((pc : Int) + o).toNat = pc' := by decide) : oG p e below F₀ (T.setTop (mkF m pc Ls (.int x :: S))) :=
 oS (fun _ q => XS.ifYes X.here hx rfl (pc0 := pc) (pc' := pc') rfl (hb hby hd) rfl hc ho hp q) κ
theorem o_in (X : Stand p l e R s m args below meth c T locs cells slots) (hx : p.tables.exec = Jvm.exec) (hby : c.code = code) {cd : ClassFile.Cond} {x : Int32} {o : Int} (hd : decode code pc = .ok (.ifCond cd o, 3)) (hc : ifCond.holds cd x = false) (κ : oG p e below F₀ (T.setTop (mkF m (pc + 3) Ls S)))  : oG p e below F₀ (T.setTop (mkF m pc Ls (.int x :: S))) :=
 oS (fun _ q => XS.ifNo X.here hx rfl (hb hby hd) rfl hc q) κ
theorem o_cy (X : Stand p l e R s m args below meth c T locs cells slots) (hx : p.tables.exec = Jvm.exec) (hby : c.code = code) {cd : ClassFile.Cond} {x y : Int32} {o : Int} (hd : decode code pc = .ok (.if_icmp cd o, 3)) (pc' : Nat) (hc : if_icmp.holds cd x y = true) (κ : oG p e below F₀ (T.setTop (mkF m pc' Ls S))) (ho : 0 ≤ (pc : Int) + o := by decide) (hp : ((pc : Int) + o).toNat = pc' := by decide) : oG p e below F₀ (T.setTop (mkF m pc Ls (.int y :: .int x :: S))) :=
 oS (fun _ q => XS.icmpYes X.here hx rfl (pc0 := pc) (pc' := pc') rfl (hb hby hd) rfl hc ho hp q) κ
theorem o_cn (X : Stand p l e R s m args below meth c T locs cells slots) (hx : p.tables.exec = Jvm.exec) (hby : c.code = code) {cd : ClassFile.Cond} {x y : Int32} {o : Int} (hd : decode code pc = .ok (.if_icmp cd o, 3)) (hc : if_icmp.holds cd x y = false) (κ : oG p e below F₀ (T.setTop (mkF m (pc + 3) Ls S)))  : oG p e below F₀ (T.setTop (mkF m pc Ls (.int y :: .int x :: S))) :=
 oS (fun _ q => XS.icmpNo X.here hx rfl (hb hby hd) rfl hc q) κ
theorem o_ny (X : Stand p l e R s m args below meth c T locs cells slots) (hx : p.tables.exec = Jvm.exec) (hby : c.code = code) {o : Int} (hd : decode code pc = .ok (.ifnull o, 3)) (pc' : Nat) (κ : oG p e below F₀ (T.setTop (mkF m pc' Ls S))) (ho : 0 ≤ (pc : Int) + o := by decide) (hp : ((pc : Int) + o).toNat = pc' := by decide) : oG p e below F₀ (T.setTop (mkF m pc Ls (.null :: S))) :=
 oS (fun _ q => XS.ifnullYes X.here hx rfl (pc0 := pc) (pc' := pc') rfl (hb hby hd) rfl ho hp q) κ
theorem o_iadd (X : Stand p l e R s m args below meth c T locs cells slots) (hx : p.tables.exec = Jvm.exec) (hby : c.code = code) {x y : Int32} (hd : decode code pc = .ok (.iadd, 1))  (κ : oG p e below F₀ (T.setTop (mkF m (pc + 1) Ls (.int (x + y) :: S))))  : oG p e below F₀ (T.setTop (mkF m pc Ls (.int y :: .int x :: S))) :=
 oS (fun _ q => XS.iadd X.here hx rfl (hb hby hd) rfl q) κ
theorem o_isub (X : Stand p l e R s m args below meth c T locs cells slots) (hx : p.tables.exec = Jvm.exec) (hby : c.code = code) {x y : Int32} (hd : decode code pc = .ok (.isub, 1))  (κ : oG p e below F₀ (T.setTop (mkF m (pc + 1) Ls (.int (x - y) :: S))))  : oG p e below F₀ (T.setTop (mkF m pc Ls (.int y :: .int x :: S))) :=
 oS (fun _ q => XS.isub X.here hx rfl (hb hby hd) rfl q) κ
theorem o_imul (X : Stand p l e R s m args below meth c T locs cells slots) (hx : p.tables.exec = Jvm.exec) (hby : c.code = code) {x y : Int32} (hd : decode code pc = .ok (.imul, 1))  (κ : oG p e below F₀ (T.setTop (mkF m (pc + 1) Ls (.int (x * y) :: S))))  : oG p e below F₀ (T.setTop (mkF m pc Ls (.int y :: .int x :: S))) :=
 oS (fun _ q => XS.imul X.here hx rfl (hb hby hd) rfl q) κ
theorem o_iand (X : Stand p l e R s m args below meth c T locs cells slots) (hx : p.tables.exec = Jvm.exec) (hby : c.code = code) {x y : Int32} (hd : decode code pc = .ok (.iand, 1))  (κ : oG p e below F₀ (T.setTop (mkF m (pc + 1) Ls (.int (x &&& y) :: S))))  : oG p e below F₀ (T.setTop (mkF m pc Ls (.int y :: .int x :: S))) :=
 oS (fun _ q => XS.iand X.here hx rfl (hb hby hd) rfl q) κ
theorem o_ladd (X : Stand p l e R s m args below meth c T locs cells slots) (hx : p.tables.exec = Jvm.exec) (hby : c.code = code) {x y : Int64} (hd : decode code pc = .ok (.ladd, 1))  (κ : oG p e below F₀ (T.setTop (mkF m (pc + 1) Ls (.long (x + y) :: S))))  : oG p e below F₀ (T.setTop (mkF m pc Ls (.long y :: .long x :: S))) :=
 oS (fun _ q => XS.ladd X.here hx rfl (hb hby hd) rfl q) κ
theorem o_lsub (X : Stand p l e R s m args below meth c T locs cells slots) (hx : p.tables.exec = Jvm.exec) (hby : c.code = code) {x y : Int64} (hd : decode code pc = .ok (.lsub, 1))  (κ : oG p e below F₀ (T.setTop (mkF m (pc + 1) Ls (.long (x - y) :: S))))  : oG p e below F₀ (T.setTop (mkF m pc Ls (.long y :: .long x :: S))) :=
 oS (fun _ q => XS.lsub X.here hx rfl (hb hby hd) rfl q) κ
theorem o_lmul (X : Stand p l e R s m args below meth c T locs cells slots) (hx : p.tables.exec = Jvm.exec) (hby : c.code = code) {x y : Int64} (hd : decode code pc = .ok (.lmul, 1))  (κ : oG p e below F₀ (T.setTop (mkF m (pc + 1) Ls (.long (x * y) :: S))))  : oG p e below F₀ (T.setTop (mkF m pc Ls (.long y :: .long x :: S))) :=
 oS (fun _ q => XS.lmul X.here hx rfl (hb hby hd) rfl q) κ
theorem o_land (X : Stand p l e R s m args below meth c T locs cells slots) (hx : p.tables.exec = Jvm.exec) (hby : c.code = code) {x y : Int64} (hd : decode code pc = .ok (.land, 1))  (κ : oG p e below F₀ (T.setTop (mkF m (pc + 1) Ls (.long (x &&& y) :: S))))  : oG p e below F₀ (T.setTop (mkF m pc Ls (.long y :: .long x :: S))) :=
 oS (fun _ q => XS.land X.here hx rfl (hb hby hd) rfl q) κ
theorem o_lcmp (X : Stand p l e R s m args below meth c T locs cells slots) (hx : p.tables.exec = Jvm.exec) (hby : c.code = code) {x y : Int64} (hd : decode code pc = .ok (.lcmp, 1))  (κ : oG p e below F₀ (T.setTop (mkF m (pc + 1) Ls (.int (lcmpW x y) :: S))))  : oG p e below F₀ (T.setTop (mkF m pc Ls (.long y :: .long x :: S))) :=
 oS (fun _ q => XS.lcmp X.here hx rfl (hb hby hd) rfl q) κ
theorem o_i2l (X : Stand p l e R s m args below meth c T locs cells slots) (hx : p.tables.exec = Jvm.exec) (hby : c.code = code) {x : Int32} (hd : decode code pc = .ok (.i2l, 1))  (κ : oG p e below F₀ (T.setTop (mkF m (pc + 1) Ls (.long x.toInt64 :: S))))  : oG p e below F₀ (T.setTop (mkF m pc Ls (.int x :: S))) :=
 oS (fun _ q => XS.i2l X.here hx rfl (hb hby hd) rfl q) κ
theorem o_l2i (X : Stand p l e R s m args below meth c T locs cells slots) (hx : p.tables.exec = Jvm.exec) (hby : c.code = code) {x : Int64} (hd : decode code pc = .ok (.l2i, 1))  (κ : oG p e below F₀ (T.setTop (mkF m (pc + 1) Ls (.int x.toInt32 :: S))))  : oG p e below F₀ (T.setTop (mkF m pc Ls (.long x :: S))) :=
 oS (fun _ q => XS.l2i X.here hx rfl (hb hby hd) rfl q) κ
theorem o_dup (X : Stand p l e R s m args below meth c T locs cells slots) (hx : p.tables.exec = Jvm.exec) (hby : c.code = code) {x : Value} (hd : decode code pc = .ok (.dup, 1))  (κ : oG p e below F₀ (T.setTop (mkF m (pc + 1) Ls (x :: x :: S)))) (hc : x.category = 1 := by rfl) : oG p e below F₀ (T.setTop (mkF m pc Ls (x :: S))) :=
 oS (fun _ q => XS.dup X.here hx rfl (hb hby hd) rfl hc q) κ
theorem o_pop (X : Stand p l e R s m args below meth c T locs cells slots) (hx : p.tables.exec = Jvm.exec) (hby : c.code = code) {x : Value} (hd : decode code pc = .ok (.pop, 1))  (κ : oG p e below F₀ (T.setTop (mkF m (pc + 1) Ls S))) (hc : x.category = 1 := by rfl) : oG p e below F₀ (T.setTop (mkF m pc Ls (x :: S))) :=
 oS (fun _ q => XS.pop X.here hx rfl (hb hby hd) rfl hc q) κ
theorem o_cS {own : String} {index : Nat} {y : MethodName} {bytes : ByteArray} {maxL : Nat} {ret : Option FieldType} {rm : Room} {as' : Array Value} {Q : Option Value → Heap → List Loc → Prop} {sig : MethodDescriptor} {ml : Nat}  (X : Stand p l e R s m args below meth c T locs cells slots) (hx : p.tables.exec = Jvm.exec) (hZ : Z.Warmed39 s.vm) (hown : s.vm.findClass own = some m.cls) (hw : oW a0 Z) (hml : c.maxLocals = ml) (hby : c.code = code) (M : MetFree l y (head1 [Jvm.Cond.code y bytes maxL ret] rm) (fun ar_ U => ar_ = as' ∧ Z.Warmed39 U.vm ∧ U.heap = h) (fun _ _ _ _ _ => True) (fun _ U oo_ U' => ∃ v L, oo_ = .returned v ∧ Q v U'.heap L ∧ FrameEnd U oo_ U' L rm.cells rm.slots)) (eT : T.heap = h) (i0 i1 i2 i3 : Nat) (W : Nat) (hd : decode code pc = .ok (.invokestatic index, 3)) (argsL rest : List Value) (hpd : parseMethodDescriptor y.desc = some sig) (hy : y.cls ≠ "java/lang/invoke/MethodHandle" ∧ y.cls ≠ "java/lang/invoke/VarHandle")
   (κ : ∀ v T' L', Q v T'.heap L' → Stand p l e R s m args below meth c T' (locs ++ L') (cells + rm.cells) (slots + rm.slots) → oG p e below F₀ (T'.setTop (mkF m (pc + 3) Ls (v.toList ++ rest))))
   (w0 : tables_1[i0]? = some (.methodLink own index y) := by rfl) (w1 : tables_1[i1]? = some (.static y) := by rfl) (w2 : tables_1[i2]? = some (.initialized y.cls) := by rfl) (w3 : tables_1[i3]? = some (.code y bytes maxL ret) := by rfl)
   (hf : rm.frames + 1 ≤ R.frames := by decide) (hl : W + (maxL + 11) + rm.locals ≤ R.locals := by decide) (hc : cells + rm.cells ≤ R.cells := by decide) (hs : slots + rm.slots ≤ R.slots := by decide) (hLs : Ls.size = ml := by rfl) (has : argsL.toArray = as' := by rfl) (hS : S = argsL.reverse ++ rest := by rfl) (hlen : argsL.length = sig.parameters.length := by rfl) (hW : (rest.map fun v => v.category).sum = W := by rfl) :
   oG p e below F₀ (T.setTop (mkF m pc Ls S)) := by
 have g := fun (i : Nat) (d : Jvm.Cond) (q : tables_1[i]? = some d) => hw d (List.mem_of_getElem? q)
 subst hS has
 obtain ⟨v, _, ⟨T', L', k', n'⟩, -, X', ⟨Lc, hQ, l1, l2, l3⟩, st⟩ := Jvm.LawKit.callS X hx (y := y) hown (mvT hZ (g _ _ w0)) (mvT hZ (g _ _ w1)) (mvT hZ (g _ _ w2)) (mvT hZ (g _ _ w3)) hy (backOf (W := W) M hZ (g _ _ w3) (g _ _ w2) hf hl) (g := mkF m pc Ls (argsL.reverse ++ rest)) rfl (by rw [hml]; exact hLs) (argsL := argsL) (rest := rest) (lenOf hpd hlen) rfl (by show 2 * 0 + _ ≤ _; omega) (hb hby hd) (fun _ _ => ⟨rfl, eT, hc, hs⟩)
 dsimp only [Pt.U, Pt.locs, Pt.cells, Pt.slots] at X' l1 l2 l3 st hQ
 subst l1 l2 l3
 exact oS (fun _ q => st _ q) (κ _ _ _ hQ X')
theorem o_cV {own : String} {index : Nat} {y : MethodName} {bytes : ByteArray} {maxL : Nat} {ret : Option FieldType} {rm : Room} {as' : Array Value} {Q : Option Value → Heap → List Loc → Prop} {sig : MethodDescriptor} {ml : Nat} {C : String} {b : Addr} (X : Stand p l e R s m args below meth c T locs cells slots) (hx : p.tables.exec = Jvm.exec) (hZ : Z.Warmed39 s.vm) (hown : s.vm.findClass own = some m.cls) (hw : oW a0 Z) (hml : c.maxLocals = ml) (hby : c.code = code) (M : MetFree l y (head1 [Jvm.Cond.code y bytes maxL ret] rm) (fun ar_ U => ar_ = as' ∧ Z.Warmed39 U.vm ∧ U.heap = h) (fun _ _ _ _ _ => True) (fun _ U oo_ U' => ∃ v L, oo_ = .returned v ∧ Q v U'.heap L ∧ FrameEnd U oo_ U' L rm.cells rm.slots)) (E : Exa Z h b C) (eT : T.heap = h) (i0 i1 i2 i3 i4 i5 : Nat) (W : Nat) (hd : decode code pc = .ok (.invokevirtual index, 3)) (argsL rest : List Value) (hpd : parseMethodDescriptor y.desc = some sig) (hy : y.cls ≠ "java/lang/invoke/MethodHandle" ∧ y.cls ≠ "java/lang/invoke/VarHandle")
   (κ : ∀ v T' L', Q v T'.heap L' → Stand p l e R s m args below meth c T' (locs ++ L') (cells + rm.cells) (slots + rm.slots) → oG p e below F₀ (T'.setTop (mkF m (pc + 3) Ls (v.toList ++ rest))))
   (w0 : tables_1[i0]? = some (.methodLink own index y) := by rfl) (w1 : tables_1[i1]? = some (.declares y) := by rfl) (w2 : tables_1[i2]? = some (.selects C y y) := by rfl) (w3 : tables_1[i3]? = some (.instanceMethod y) := by rfl) (w4 : tables_1[i4]? = some (.code y bytes maxL ret) := by rfl) (w5 : tables_1[i5]? = some (.initialized y.cls) := by rfl)
   (hf : rm.frames + 1 ≤ R.frames := by decide) (hl : W + (maxL + 11) + rm.locals ≤ R.locals := by decide) (hc : cells + rm.cells ≤ R.cells := by decide) (hs : slots + rm.slots ≤ R.slots := by decide) (hLs : Ls.size = ml := by rfl) (has : (Value.ref b :: argsL).toArray = as' := by rfl) (hS : S = argsL.reverse ++ .ref b :: rest := by rfl) (hlen : argsL.length = sig.parameters.length := by rfl) (hW : (rest.map fun v => v.category).sum = W := by rfl) :
   oG p e below F₀ (T.setTop (mkF m pc Ls S)) := by
 have g := fun (i : Nat) (d : Jvm.Cond) (q : tables_1[i]? = some d) => hw d (List.mem_of_getElem? q)
 subst hS has
 obtain ⟨cq, kq, qa, qb, qc⟩ := isOf hZ eT E
 obtain ⟨v, _, ⟨T', L', k', n'⟩, -, X', ⟨Lc, hQ, l1, l2, l3⟩, st⟩ := X.virtualBack hx (y := y) (z := y) hown (mvT hZ (g _ _ w0)) (mvT hZ (g _ _ w1)) (notFace_of_selects (args := #[]) (mvT hZ (g _ _ w2))) (mvT hZ (g _ _ w2)) (mvT hZ (g _ _ w3)) hy (backOf (W := W) M hZ (g _ _ w4) (g _ _ w5) hf hl) qa qc (g := mkF m pc Ls (argsL.reverse ++ .ref b :: rest)) rfl (by rw [hml]; exact hLs) (Steps.refl _) (argsL := argsL) (rest := rest) (lenOf hpd hlen) rfl (by show 2 * 0 + _ ≤ _; omega) (hb hby hd) (fun _ _ => ⟨rfl, eT, hc, hs⟩)
 dsimp only [Pt.U, Pt.locs, Pt.cells, Pt.slots] at X' l1 l2 l3 st hQ
 subst l1 l2 l3
 exact oS (fun _ q => st.trans q) (κ _ _ _ hQ X')
theorem o_cI {own : String} {index : Nat} {y : MethodName} {bytes : ByteArray} {maxL : Nat} {ret : Option FieldType} {rm : Room} {as' : Array Value} {Q : Option Value → Heap → List Loc → Prop} {sig : MethodDescriptor} {ml : Nat} {x : MethodName} {C : String} {cnt : Nat} {b : Addr} (X : Stand p l e R s m args below meth c T locs cells slots) (hx : p.tables.exec = Jvm.exec) (hZ : Z.Warmed39 s.vm) (hown : s.vm.findClass own = some m.cls) (hw : oW a0 Z) (hml : c.maxLocals = ml) (hby : c.code = code) (M : MetFree l y (head1 [Jvm.Cond.code y bytes maxL ret] rm) (fun ar_ U => ar_ = as' ∧ Z.Warmed39 U.vm ∧ U.heap = h) (fun _ _ _ _ _ => True) (fun _ U oo_ U' => ∃ v L, oo_ = .returned v ∧ Q v U'.heap L ∧ FrameEnd U oo_ U' L rm.cells rm.slots)) (E : Exa Z h b C) (eT : T.heap = h) (i0 i1 i2 i3 i4 i5 i6 i7 i8 i9 : Nat) (W : Nat) (hd : decode code pc = .ok (.invokeinterface index cnt, 5)) (argsL rest : List Value) (hpd : parseMethodDescriptor x.desc = some sig) (hy : x.cls ≠ "java/lang/invoke/MethodHandle" ∧ x.cls ≠ "java/lang/invoke/VarHandle")
   (κ : ∀ v T' L', Q v T'.heap L' → Stand p l e R s m args below meth c T' (locs ++ L') (cells + rm.cells) (slots + rm.slots) → oG p e below F₀ (T'.setTop (mkF m (pc + 5) Ls (v.toList ++ rest))))
   (w0 : tables_1[i0]? = some (.methodLink own index x) := by rfl) (w1 : tables_1[i1]? = some (.declares x) := by rfl) (w2 : tables_1[i2]? = some (.interfaceMethod x.cls x.cls x.name x.desc) := by rfl) (w3 : tables_1[i3]? = some (.selects C x y) := by rfl) (w4 : tables_1[i4]? = some (.instanceMethod y) := by rfl) (w5 : tables_1[i5]? = some (.publicMethod y) := by rfl) (w6 : tables_1[i6]? = some (.unhidden C x.name x.desc) := by rfl) (w7 : tables_1[i7]? = some (.castable C x.cls) := by rfl) (w8 : tables_1[i8]? = some (.code y bytes maxL ret) := by rfl) (w9 : tables_1[i9]? = some (.initialized y.cls) := by rfl)
   (hf : rm.frames + 1 ≤ R.frames := by decide) (hl : W + (maxL + 11) + rm.locals ≤ R.locals := by decide) (hc : cells + rm.cells ≤ R.cells := by decide) (hs : slots + rm.slots ≤ R.slots := by decide) (hLs : Ls.size = ml := by rfl) (has : (Value.ref b :: argsL).toArray = as' := by rfl) (hS : S = argsL.reverse ++ .ref b :: rest := by rfl) (hlen : argsL.length = sig.parameters.length := by rfl) (hW : (rest.map fun v => v.category).sum = W := by rfl) :
   oG p e below F₀ (T.setTop (mkF m pc Ls S)) := by
 have g := fun (i : Nat) (d : Jvm.Cond) (q : tables_1[i]? = some d) => hw d (List.mem_of_getElem? q)
 subst hS has
 obtain ⟨cq, kq, qa, qb, qc⟩ := isOf hZ eT E
 obtain ⟨v, _, ⟨T', L', k', n'⟩, -, X', ⟨Lc, hQ, l1, l2, l3⟩, st⟩ := X.interfaceBack hx (xi := x) (y := y) hown (mvT hZ (g _ _ w0)) (mvT hZ (g _ _ w1)) (mvT hZ (g _ _ w2) (by simp [Cond.onTables, Cond.keepsFace, Cond.keeps, Cond.steady, Cond.faceAtom, hy.1, hy.2])) (mvT hZ (g _ _ w3)) (mvT hZ (g _ _ w4)) (mvT hZ (g _ _ w5)) (mvT hZ (g _ _ w6)) (mvT hZ (g _ _ w7)) hy (backOf (W := W) M hZ (g _ _ w8) (g _ _ w9) hf hl) qa qb qc (g := mkF m pc Ls (argsL.reverse ++ .ref b :: rest)) rfl (by rw [hml]; exact hLs) (Steps.refl _) (argsL := argsL) (rest := rest) (lenOf hpd hlen) rfl (by show 2 * 0 + _ ≤ _; omega) (hb hby hd) (fun _ _ => ⟨rfl, eT, hc, hs⟩)
 dsimp only [Pt.U, Pt.locs, Pt.cells, Pt.slots] at X' l1 l2 l3 st hQ
 subst l1 l2 l3
 exact oS (fun _ q => st.trans q) (κ _ _ _ hQ X')
theorem o_cP {own : String} {index : Nat} {y : MethodName} {bytes : ByteArray} {maxL : Nat} {ret : Option FieldType} {rm : Room} {as' : Array Value} {Q : Option Value → Heap → List Loc → Prop} {sig : MethodDescriptor} {ml : Nat} {C : String} {kI : Nat} {b : Addr} (X : Stand p l e R s m args below meth c T locs cells slots) (hx : p.tables.exec = Jvm.exec) (hZ : Z.Warmed39 s.vm) (hown : s.vm.findClass own = some m.cls) (hw : oW a0 Z) (hml : c.maxLocals = ml) (hby : c.code = code) (M : MetFree l y (head1 [Jvm.Cond.code y bytes maxL ret] rm) (fun ar_ U => ar_ = as' ∧ Z.Warmed39 U.vm ∧ U.heap = h) (fun _ _ _ _ _ => True) (fun _ U oo_ U' => ∃ v L, oo_ = .returned v ∧ Q v U'.heap L ∧ FrameEnd U oo_ U' L rm.cells rm.slots)) (E : Exa Z h b C) (eT : T.heap = h) (i0 i1 i2 i3 i4 i5 : Nat) (W : Nat) (hd : decode code pc = .ok (.invokevirtual index, 3)) (argsL rest : List Value) (hpd : parseMethodDescriptor y.desc = some sig) (hy : y.cls ≠ "java/lang/invoke/MethodHandle" ∧ y.cls ≠ "java/lang/invoke/VarHandle")
   (κ : ∀ v T' L', Q v T'.heap L' → Stand p l e R s m args below meth c T' (locs ++ L') (cells + rm.cells) (slots + rm.slots) → oG p e below F₀ (T'.setTop (mkF m (pc + 3) Ls (v.toList ++ rest))))
   (w0 : tables_1[i0]? = some (.methodLink own index y) := by rfl) (w1 : tables_1[i1]? = some (.instanceMethod y) := by rfl) (w2 : tables_1[i2]? = some (.instantiable y.cls kI) := by rfl) (w3 : tables_1[i3]? = some (.privateMethod y) := by rfl) (w4 : tables_1[i4]? = some (.code y bytes maxL ret) := by rfl) (w5 : tables_1[i5]? = some (.initialized y.cls) := by rfl)
   (hf : rm.frames + 1 ≤ R.frames := by decide) (hl : W + (maxL + 11) + rm.locals ≤ R.locals := by decide) (hc : cells + rm.cells ≤ R.cells := by decide) (hs : slots + rm.slots ≤ R.slots := by decide) (hLs : Ls.size = ml := by rfl) (has : (Value.ref b :: argsL).toArray = as' := by rfl) (hS : S = argsL.reverse ++ .ref b :: rest := by rfl) (hlen : argsL.length = sig.parameters.length := by rfl) (hW : (rest.map fun v => v.category).sum = W := by rfl) :
   oG p e below F₀ (T.setTop (mkF m pc Ls S)) := by
 have g := fun (i : Nat) (d : Jvm.Cond) (q : tables_1[i]? = some d) => hw d (List.mem_of_getElem? q)
 subst hS has
 obtain ⟨cq, q, q'⟩ := E.cell
 obtain ⟨v, _, ⟨T', L', k', n'⟩, -, X', ⟨Lc, hQ, l1, l2, l3⟩, st⟩ := X.privateBack hx (y := y) hown (mvT hZ (g _ _ w0)) (mvT hZ (g _ _ w1)) (own_selP (y := y) hZ (g _ _ w2) (g _ _ w3) (g _ _ w1) hy) (Cond.privateMethod_at (mvP hZ (g _ _ w3) (args := #[]))) (mvT hZ (g _ _ w4)) hy (backOf (W := W) M hZ (g _ _ w4) (g _ _ w5) hf hl) (g := mkF m pc Ls (argsL.reverse ++ .ref b :: rest)) rfl (by rw [hml]; exact hLs) (Steps.refl _) (a := b) (by rw [eT]; exact q) q' (argsL := argsL) (rest := rest) (lenOf hpd hlen) rfl (by show 2 * 0 + _ ≤ _; omega) (hb hby hd) (fun _ _ => ⟨rfl, eT, hc, hs⟩)
 dsimp only [Pt.U, Pt.locs, Pt.cells, Pt.slots] at X' l1 l2 l3 st hQ
 subst l1 l2 l3
 exact oS (fun _ q => st.trans q) (κ _ _ _ hQ X')
theorem o_cN {own : String} {index : Nat} {y : MethodName} {bytes : ByteArray} {maxL : Nat} {ret : Option FieldType} {rm : Room} {as' : Array Value} {Q : Option Value → Heap → List Loc → Prop} {sig : MethodDescriptor} {ml : Nat} {C host : String} {kI : Nat} {b : Addr} (X : Stand p l e R s m args below meth c T locs cells slots) (hx : p.tables.exec = Jvm.exec) (hZ : Z.Warmed39 s.vm) (hown : s.vm.findClass own = some m.cls) (hw : oW a0 Z) (hml : c.maxLocals = ml) (hby : c.code = code) (M : MetFree l y (head1 [Jvm.Cond.code y bytes maxL ret] rm) (fun ar_ U => ar_ = as' ∧ Z.Warmed39 U.vm ∧ U.heap = h) (fun _ _ _ _ _ => True) (fun _ U oo_ U' => ∃ v L, oo_ = .returned v ∧ Q v U'.heap L ∧ FrameEnd U oo_ U' L rm.cells rm.slots)) (E : Exa Z h b C) (eT : T.heap = h) (i0 i1 i2 i3 i4 i5 : Nat) (W : Nat) (hd : decode code pc = .ok (.invokevirtual index, 3)) (argsL rest : List Value) (hpd : parseMethodDescriptor y.desc = some sig) (hy : y.cls ≠ "java/lang/invoke/MethodHandle" ∧ y.cls ≠ "java/lang/invoke/VarHandle")
   (κ : ∀ v T' L', Q v T'.heap L' → Stand p l e R s m args below meth c T' (locs ++ L') (cells + rm.cells) (slots + rm.slots) → oG p e below F₀ (T'.setTop (mkF m (pc + 3) Ls (v.toList ++ rest))))
   (w0 : tables_1[i0]? = some (.methodLinkNest own index y host) := by rfl) (w1 : tables_1[i1]? = some (.instanceMethod y) := by rfl) (w2 : tables_1[i2]? = some (.instantiable y.cls kI) := by rfl) (w3 : tables_1[i3]? = some (.privateMethod y) := by rfl) (w4 : tables_1[i4]? = some (.code y bytes maxL ret) := by rfl) (w5 : tables_1[i5]? = some (.initialized y.cls) := by rfl)
   (hf : rm.frames + 1 ≤ R.frames := by decide) (hl : W + (maxL + 11) + rm.locals ≤ R.locals := by decide) (hc : cells + rm.cells ≤ R.cells := by decide) (hs : slots + rm.slots ≤ R.slots := by decide) (hLs : Ls.size = ml := by rfl) (has : (Value.ref b :: argsL).toArray = as' := by rfl) (hS : S = argsL.reverse ++ .ref b :: rest := by rfl) (hlen : argsL.length = sig.parameters.length := by rfl) (hW : (rest.map fun v => v.category).sum = W := by rfl) :
   oG p e below F₀ (T.setTop (mkF m pc Ls S)) := by
 have g := fun (i : Nat) (d : Jvm.Cond) (q : tables_1[i]? = some d) => hw d (List.mem_of_getElem? q)
 subst hS has
 obtain ⟨cq, q, q'⟩ := E.cell
 obtain ⟨v, _, ⟨T', L', k', n'⟩, -, X', ⟨Lc, hQ, l1, l2, l3⟩, st⟩ := own_privNest X hx (y := y) hown (own_mvNest hZ (g _ _ w0)) (mvT hZ (g _ _ w1)) (own_selP (y := y) hZ (g _ _ w2) (g _ _ w3) (g _ _ w1) hy) (Cond.privateMethod_at (mvP hZ (g _ _ w3) (args := #[]))) (mvT hZ (g _ _ w4)) hy (backOf (W := W) M hZ (g _ _ w4) (g _ _ w5) hf hl) (g := mkF m pc Ls (argsL.reverse ++ .ref b :: rest)) rfl (by rw [hml]; exact hLs) (Steps.refl _) (a := b) (by rw [eT]; exact q) q' (argsL := argsL) (rest := rest) (lenOf hpd hlen) rfl (by show 2 * 0 + _ ≤ _; omega) (hb hby hd) (fun _ _ => ⟨rfl, eT, hc, hs⟩)
 dsimp only [Pt.U, Pt.locs, Pt.cells, Pt.slots] at X' l1 l2 l3 st hQ
 subst l1 l2 l3
 exact oS (fun _ q => st.trans q) (κ _ _ _ hQ X')
theorem o_cK {own : String} {index : Nat} {y : MethodName} {bytes : ByteArray} {maxL : Nat} {rm : Room} {as' : Array Value} {Q : Option Value → Heap → List Loc → Prop} {sig : MethodDescriptor} {ml : Nat}  {b : Addr} (X : Stand p l e R s m args below meth c T locs cells slots) (hx : p.tables.exec = Jvm.exec) (hZ : Z.Warmed39 s.vm) (hown : s.vm.findClass own = some m.cls) (hw : oW a0 Z) (hml : c.maxLocals = ml) (hby : c.code = code) (M : MetFree l y (head1 [Jvm.Cond.code y bytes maxL none] rm) (fun ar_ U => ar_ = as' ∧ Z.Warmed39 U.vm ∧ U.heap = h) (fun _ _ _ _ _ => True) (fun _ U oo_ U' => ∃ v L, oo_ = .returned v ∧ Q v U'.heap L ∧ FrameEnd U oo_ U' L rm.cells rm.slots)) (hy1 : y.name = "<init>") (eT : T.heap = h) (i0 i1 i2 i3 : Nat) (W : Nat) (hd : decode code pc = .ok (.invokespecial index, 3)) (argsL rest : List Value) (hpd : parseMethodDescriptor y.desc = some sig) (hy : y.cls ≠ "java/lang/invoke/MethodHandle" ∧ y.cls ≠ "java/lang/invoke/VarHandle")
   (κ : ∀ v T' L', Q v T'.heap L' → Stand p l e R s m args below meth c T' (locs ++ L') (cells + rm.cells) (slots + rm.slots) → oG p e below F₀ (T'.setTop (mkF m (pc + 3) Ls (v.toList ++ rest))))
   (w0 : tables_1[i0]? = some (.methodLink own index y) := by rfl) (w1 : tables_1[i1]? = some (.instanceMethod y) := by rfl) (w2 : tables_1[i2]? = some (.code y bytes maxL none) := by rfl) (w3 : tables_1[i3]? = some (.initialized y.cls) := by rfl)
   (hf : rm.frames + 1 ≤ R.frames := by decide) (hl : W + (maxL + 11) + rm.locals ≤ R.locals := by decide) (hc : cells + rm.cells ≤ R.cells := by decide) (hs : slots + rm.slots ≤ R.slots := by decide) (hLs : Ls.size = ml := by rfl) (has : (Value.ref b :: argsL).toArray = as' := by rfl) (hS : S = argsL.reverse ++ .ref b :: rest := by rfl) (hlen : argsL.length = sig.parameters.length := by rfl) (hW : (rest.map fun v => v.category).sum = W := by rfl) :
   oG p e below F₀ (T.setTop (mkF m pc Ls S)) := by
 have g := fun (i : Nat) (d : Jvm.Cond) (q : tables_1[i]? = some d) => hw d (List.mem_of_getElem? q)
 subst hS has
 obtain ⟨v, _, ⟨T', L', k', n'⟩, -, X', ⟨Lc, hQ, l1, l2, l3⟩, st⟩ := X.specialBack hx (y := y) hy1 hown (mvT hZ (g _ _ w0)) (mvT hZ (g _ _ w1)) (mvT hZ (g _ _ w2)) hy (backOf (W := W) M hZ (g _ _ w2) (g _ _ w3) hf hl) (g := mkF m pc Ls (argsL.reverse ++ .ref b :: rest)) rfl (by rw [hml]; exact hLs) (Steps.refl _) (a := b) (argsL := argsL) (rest := rest) (lenOf hpd hlen) rfl (by show 2 * 0 + _ ≤ _; omega) (hb hby hd) (fun _ _ => ⟨rfl, eT, hc, hs⟩)
 dsimp only [Pt.U, Pt.locs, Pt.cells, Pt.slots] at X' l1 l2 l3 st hQ
 subst l1 l2 l3
 exact oS (fun _ q => st.trans q) (κ _ _ _ hQ X')
theorem o_pF {own R0 O n d C : String} {index kk : Nat} {a : Addr} {v old : Value} (X : Stand p l e R s m args below meth c T locs cells slots) (hx : p.tables.exec = Jvm.exec) (hZ : Z.Warmed39 s.vm) (hown : s.vm.findClass own = some m.cls) (hby : c.code = code) (w : (Cond.fieldLink own index R0 n d).before a0 Z = true) (via : Via Z R0 O n d) (eT : T.heap = h) (F : Fld Z h a O n d old) (E : Exa Z h a C) (L : (Cond.lays C O n d).before a0 Z = true ∨ ((Cond.laysFinal C O n d).before a0 Z = true ∧ own = O ∧ meth.name = "<init>")) (wi : (Cond.instantiable C kk).before a0 Z = true) {ty : FieldType} (hty : parseFieldDescriptor d = some ty) (hd : decode code pc = .ok (.putfield index, 3))
   (κ : ∀ T' h', Stand p l e R s m args below meth c T' (locs ++ [⟨a, Jvm.RoadKit.slotOf Z O n d⟩]) cells slots → T'.heap = h' → Wr h h' a (Jvm.RoadKit.slotOf Z O n d) v → oG p e below F₀ (T'.setTop (mkF m (pc + 3) Ls S))) (hn : narrow ty v = v := by rfl) (hf : fits ty v = true := by rfl) : oG p e below F₀ (T.setTop (mkF m pc Ls (v :: .ref a :: S))) := by
 obtain ⟨T', h', X', e', W', st⟩ := putF X hx hZ hown (host := "") (Or.inl w) via eT F E L wi hty hn hf (g := mkF m pc Ls (v :: .ref a :: S)) rfl rfl (hb hby hd)
 exact oS st (κ T' h' X' e' W')
theorem o_pN {own R0 O n d host C : String} {index kk : Nat} {a : Addr} {v old : Value} (X : Stand p l e R s m args below meth c T locs cells slots) (hx : p.tables.exec = Jvm.exec) (hZ : Z.Warmed39 s.vm) (hown : s.vm.findClass own = some m.cls) (hby : c.code = code) (w : (Cond.fieldLinkNest own index R0 n d host).before a0 Z = true) (via : Via Z R0 O n d) (eT : T.heap = h) (F : Fld Z h a O n d old) (E : Exa Z h a C) (L : (Cond.lays C O n d).before a0 Z = true ∨ ((Cond.laysFinal C O n d).before a0 Z = true ∧ own = O ∧ meth.name = "<init>")) (wi : (Cond.instantiable C kk).before a0 Z = true) {ty : FieldType} (hty : parseFieldDescriptor d = some ty) (hd : decode code pc = .ok (.putfield index, 3))
   (κ : ∀ T' h', Stand p l e R s m args below meth c T' (locs ++ [⟨a, Jvm.RoadKit.slotOf Z O n d⟩]) cells slots → T'.heap = h' → Wr h h' a (Jvm.RoadKit.slotOf Z O n d) v → oG p e below F₀ (T'.setTop (mkF m (pc + 3) Ls S))) (hn : narrow ty v = v := by rfl) (hf : fits ty v = true := by rfl) : oG p e below F₀ (T.setTop (mkF m pc Ls (v :: .ref a :: S))) := by
 obtain ⟨T', h', X', e', W', st⟩ := putF X hx hZ hown (Or.inr w) via eT F E L wi hty hn hf (g := mkF m pc Ls (v :: .ref a :: S)) rfl rfl (hb hby hd)
 exact oS st (κ T' h' X' e' W')
theorem o_g {own O n d : String} {index : Nat} {a : Addr} {v : Value} (X : Stand p l e R s m args below meth c T locs cells slots) (hx : p.tables.exec = Jvm.exec) (hZ : Z.Warmed39 s.vm) (hown : s.vm.findClass own = some m.cls) (hw : oW a0 Z) (hby : c.code = code) (eT : T.heap = h) (F : Fld Z h a O n d v) (i : Nat) (hd : decode code pc = .ok (.getfield index, 3)) (κ : ∀ T', Stand p l e R s m args below meth c T' locs cells slots → T'.heap = h → oG p e below F₀ (T'.setTop (mkF m (pc + 3) Ls (v :: S)))) (w : tables_1[i]? = some (.fieldLink own index O n d) := by rfl) : oG p e below F₀ (T.setTop (mkF m pc Ls (.ref a :: S))) :=
 own_gF X hx hZ hown (hw _ (List.mem_of_getElem? w)) Via.refl eT F (hb hby hd) κ
theorem oV {v : Value} (κ : oG p e below F₀ (T.setTop (mkF m pc Ls (v :: S)))) : oG p e below F₀ (T.setTop (mkF m pc Ls ((some v).toList ++ S))) := κ
theorem oN (κ : oG p e below F₀ (T.setTop (mkF m pc Ls S))) : oG p e below F₀ (T.setTop (mkF m pc Ls ((none : Option Value).toList ++ S))) := κ
def own_F (Q : Option Value → Heap → List Loc → Prop) (U : State) (rm : Room) : State → Outcome → Prop := fun U' oo_ => ∃ v L, oo_ = .returned v ∧ Q v U'.heap L ∧ FrameEnd U oo_ U' L rm.cells rm.slots
theorem own_bd {l : Launch} {y : MethodName} {code : ByteArray} {ml : Nat} {ret : Option FieldType} {ws : List Jvm.Cond} {rm : Room} {av : Array Value} {Z : State} {h0 : Heap} {Q : Option Value → Heap → List Loc → Prop} (Ls : Array Slot) (hpl : plainFor y = true)
   (k : ∀ (p : Program) (e : Env) (s : State) (m : MethodId) (below : List Frame) (meth : Method) (c : Code) (s₁ : State), p.tables.exec = Jvm.exec → c.code = code → c.maxLocals = ml → meth.sig.returnType = ret → meth.locks = false → Z.Warmed39 s.vm → s.vm.findClass y.cls = some m.cls → meth.name = y.name → Stand p l e rm s m av below meth c s₁ [] 0 0 → s₁.heap = h0 → oG p e below (own_F Q s rm) (s₁.setTop (mkF m 0 Ls [])))
   (hf : ∀ m : MethodId, entryFrame m av ml = mkF m 0 Ls [] := by intro m; first | (simp [entryFrame, mkF, argsToLocals, Value.category]; done) | rfl) : own_Met l y code ml ret ws rm av Z h0 Q := by
 refine MetFree.of_bodySF hpl hisR ?_
 intro p e s m args below meth c s₁ Bd hml0 hP hK
 obtain ⟨ha, hZ, hh⟩ := hP
 subst ha
 have e0 : s₁.heap = h0 := by rw [← hh, Bd.state]; rfl
 exact own_in (castTop (hf m)) (k p e s m below meth c s₁ Bd.exec Bd.bytes hml0 Bd.returns Bd.notSynchronized hZ (findClass_of_methodNamed Bd.named) (name_of_methodNamed Bd.named Bd.method).1 (Stand.of_body Bd) e0)
theorem o_rv {Q : Option Value → Heap → List Loc → Prop} (X : Stand p l e R s m args below meth c T locs cells slots) (hx : p.tables.exec = Jvm.exec) (hby : c.code = code)  (hrt : meth.sig.returnType = none) (hlk : meth.locks = false) (hd : decode code pc = .ok (.return_, 1)) (hQ : Q (none) T.heap locs) (hc : cells ≤ R.cells := by decide) (hs : slots ≤ R.slots := by decide) : oG p e below (own_F Q s R) (T.setTop (mkF m pc Ls [])) := by
 obtain ⟨fs, hr, hrun, hended, hW, hsame⟩ := X.leave (v := none) (fun q => by first | rfl | (rw [hrt] at q; cases q)) hlk
 exact ⟨_, _, X.returnOut hx hrt (hb hby hd) hr, hrun, hended, _, _, rfl, hQ, ⟨_, rfl⟩, hW, hsame.mono hc hs⟩
theorem o_rI {Q : Option Value → Heap → List Loc → Prop} (X : Stand p l e R s m args below meth c T locs cells slots) (hx : p.tables.exec = Jvm.exec) (hby : c.code = code) {z : Int32} (hrt : meth.sig.returnType = some .int) (hlk : meth.locks = false) (hd : decode code pc = .ok (.ireturn, 1)) (hQ : Q (some (.int z)) T.heap locs) (hc : cells ≤ R.cells := by decide) (hs : slots ≤ R.slots := by decide) : oG p e below (own_F Q s R) (T.setTop (mkF m pc Ls (.int z :: S))) := by
 obtain ⟨fs, hr, hrun, hended, hW, hsame⟩ := X.leave (v := some (.int z)) (fun q => by first | rfl | (rw [hrt] at q; cases q)) hlk
 exact ⟨_, _, own_retI X hx hrt (hb hby hd) hr, hrun, hended, _, _, rfl, hQ, ⟨_, rfl⟩, hW, hsame.mono hc hs⟩
theorem o_rZ {Q : Option Value → Heap → List Loc → Prop} (X : Stand p l e R s m args below meth c T locs cells slots) (hx : p.tables.exec = Jvm.exec) (hby : c.code = code) {z : Int32} {t : FieldType} (hrt : meth.sig.returnType = some t) (hlk : meth.locks = false) (hd : decode code pc = .ok (.ireturn, 1)) (hQ : Q (some (.int (nar t z))) T.heap locs) (ht : t = .boolean ∨ t = .byte ∨ t = .char ∨ t = .short := by simp) (hc : cells ≤ R.cells := by decide) (hs : slots ≤ R.slots := by decide) : oG p e below (own_F Q s R) (T.setTop (mkF m pc Ls (.int z :: S))) := by
 obtain ⟨fs, hr, hrun, hended, hW, hsame⟩ := X.leave (v := some (.int (nar t z))) (fun q => by first | rfl | (rw [hrt] at q; cases q)) hlk
 exact ⟨_, _, retN X hx (t := t) hrt ht (hb hby hd) hr, hrun, hended, _, _, rfl, hQ, ⟨_, rfl⟩, hW, hsame.mono hc hs⟩
theorem o_rJ {Q : Option Value → Heap → List Loc → Prop} (X : Stand p l e R s m args below meth c T locs cells slots) (hx : p.tables.exec = Jvm.exec) (hby : c.code = code) {z : Int64} (hrt : meth.sig.returnType = some .long) (hlk : meth.locks = false) (hd : decode code pc = .ok (.lreturn, 1)) (hQ : Q (some (.long z)) T.heap locs) (hc : cells ≤ R.cells := by decide) (hs : slots ≤ R.slots := by decide) : oG p e below (own_F Q s R) (T.setTop (mkF m pc Ls (.long z :: S))) := by
 obtain ⟨fs, hr, hrun, hended, hW, hsame⟩ := X.leave (v := some (.long z)) (fun q => by first | rfl | (rw [hrt] at q; cases q)) hlk
 exact ⟨_, _, retOut X hx hrt rfl (Or.inr (Or.inl ⟨rfl, rfl, _, rfl⟩)) (hb hby hd) hr, hrun, hended, _, _, rfl, hQ, ⟨_, rfl⟩, hW, hsame.mono hc hs⟩
theorem o_rA {Q : Option Value → Heap → List Loc → Prop} (X : Stand p l e R s m args below meth c T locs cells slots) (hx : p.tables.exec = Jvm.exec) (hby : c.code = code) {w : Value} {t : FieldType} (hrt : meth.sig.returnType = some t) (hlk : meth.locks = false) (hd : decode code pc = .ok (.areturn, 1)) (hQ : Q (some w) T.heap locs) (ht : t.isReference = true := by rfl) (hw : w.isRef = true := by rfl) (hn : narrow t w = w := by rfl) (hc : cells ≤ R.cells := by decide) (hs : slots ≤ R.slots := by decide) : oG p e below (own_F Q s R) (T.setTop (mkF m pc Ls (w :: S))) := by
 obtain ⟨fs, hr, hrun, hended, hW, hsame⟩ := X.leave (v := some w) (fun q => by first | rfl | (rw [hrt] at q; cases q)) hlk
 exact ⟨_, _, retOut X hx hrt hn (Or.inr (Or.inr (Or.inr (Or.inr ⟨rfl, ht, hw⟩)))) (hb hby hd) hr, hrun, hended, _, _, rfl, hQ, ⟨_, rfl⟩, hW, hsame.mono hc hs⟩
theorem o_ac {cd : ACond} {x y : Value} {o : Int} (X : Stand p l e R s m args below meth c T locs cells slots) (hx : p.tables.exec = Jvm.exec) (hby : c.code = code) (hd : decode code pc = .ok (.if_acmp cd o, 3)) (pc' : Nat) (same : Bool) (hq : decide (x = y) = same) (κ : oG p e below F₀ (T.setTop (mkF m pc' Ls S))) (h1 : x.isRef = true := by rfl) (h2 : y.isRef = true := by rfl) (ho : 0 ≤ (pc : Int) + o := by decide) (hp : pc' = if acV cd same = true then ((pc : Int) + o).toNat else pc + 3 := by decide) : oG p e below F₀ (T.setTop (mkF m pc Ls (y :: x :: S))) :=
 oS (fun _ q => Jvm.RoadKit.acmp (g := mkF m pc Ls (y :: x :: S)) X hx rfl h1 h2 (pc0 := pc) (pc' := pc') (same := same) rfl (hb hby hd) rfl hq ho hp q) κ
theorem o_nG {b : Addr} {C ad : String} {n : Int32} {f : Nat → Value} (X : Stand p l e R s m args below meth c T locs cells slots) (hx : p.tables.exec = Jvm.exec) (hZ : Z.Warmed39 s.vm) (hby : c.code = code) (eT : T.heap = h) (F : own_Rg Z h b C ad n f) (hd : decode code pc = .ok (.arraylength, 1)) (κ : oG p e below F₀ (T.setTop (mkF m (pc + 1) Ls (.int n :: S)))) : oG p e below F₀ (T.setTop (mkF m pc Ls (.ref b :: S))) := by
 obtain ⟨cl, Ar, Sz, Nz, -, -⟩ := F.opened
 refine oS (fun _ q => X.arraylength hx (by rw [eT]; exact Ar.1) (State.isArrayOf_alike hZ.alike Ar.2.1) (g := mkF m pc Ls (.ref b :: S)) rfl rfl (hb hby hd) _ q) ?_
 rw [len_of Sz Nz]
 exact κ
theorem o_nB {b : Addr} {n : Int32} {g : Nat → Int32} (X : Stand p l e R s m args below meth c T locs cells slots) (hx : p.tables.exec = Jvm.exec) (hZ : Z.Warmed39 s.vm) (hby : c.code = code) (eT : T.heap = h) (F : own_By Z h b n g) (hd : decode code pc = .ok (.arraylength, 1)) (κ : oG p e below F₀ (T.setTop (mkF m (pc + 1) Ls (.int n :: S)))) : oG p e below F₀ (T.setTop (mkF m pc Ls (.ref b :: S))) := by
 obtain ⟨cl, Ar, Sz, Nz, -⟩ := F.opened
 refine oS (fun _ q => X.arraylength hx (by rw [eT]; exact Ar.1) (State.isArrayOf_alike hZ.alike Ar.2.1) (g := mkF m pc Ls (.ref b :: S)) rfl rfl (hb hby hd) _ q) ?_
 rw [len_of Sz Nz]
 exact κ
theorem o_nA {b : Addr} {k : ClassId} {ty : FieldType} {n : Int32} {vs : List Value} {d : Value} (X : Stand p l e R s m args below meth c T locs cells slots) (hx : p.tables.exec = Jvm.exec) (hZ : Z.Warmed39 s.vm) (hby : c.code = code) (eT : T.heap = h) (F : Arv Z h b k ty n vs d) (hd : decode code pc = .ok (.arraylength, 1)) (κ : oG p e below F₀ (T.setTop (mkF m (pc + 1) Ls (.int n :: S)))) : oG p e below F₀ (T.setTop (mkF m pc Ls (.ref b :: S))) := by
 obtain ⟨cl, Ar, -, Sz, Nz, -, -⟩ := id F
 refine oS (fun _ q => X.arraylength hx (by rw [eT]; exact Ar.1) (State.isArrayOf_alike hZ.alike Ar.2.1) (g := mkF m pc Ls (.ref b :: S)) rfl rfl (hb hby hd) _ q) ?_
 rw [len_of Sz Nz]
 exact κ
theorem o_ia {b : Addr} {k : ClassId} {n j z : Int32} {vs : List Value} {d : Value} (X : Stand p l e R s m args below meth c T locs cells slots) (hx : p.tables.exec = Jvm.exec) (hZ : Z.Warmed39 s.vm) (hby : c.code = code) (eT : T.heap = h) (F : Arv Z h b k .int n vs d) (hd : decode code pc = .ok (.iaload, 1)) (inb : ¬ j < 0 ∧ j < n) (κ : oG p e below F₀ (T.setTop (mkF m (pc + 1) Ls (.int z :: S)))) (u : vs.getD j.toNatClampNeg d = .int z := by rfl) : oG p e below F₀ (T.setTop (mkF m pc Ls (.int j :: .ref b :: S))) := by
 obtain ⟨cl, Ar, q, Sz, Nz, Hs, Gs⟩ := id F
 have hin := inb_of (j := j) Sz inb
 exact oS (fun _ q => X.iaload hx (j := j) (v := .int z) (by rw [eT]; exact Ar.1) (State.isArrayOf_alike hZ.alike Ar.2.1) Ar.2.2 hin (Hs.at (j := j) hin u) (g := mkF m pc Ls (.int j :: .ref b :: S)) rfl rfl (hb hby hd) _ q) κ
theorem o_aa {b : Addr} {C ad : String} {n j : Int32} {f : Nat → Value} {v : Value} (X : Stand p l e R s m args below meth c T locs cells slots) (hx : p.tables.exec = Jvm.exec) (hZ : Z.Warmed39 s.vm) (hby : c.code = code) (eT : T.heap = h) (F : own_Rg Z h b C ad n f) (hd : decode code pc = .ok (.aaload, 1)) (inb : ¬ j < 0 ∧ j < n) (u : f j.toNatClampNeg = v) (κ : oG p e below F₀ (T.setTop (mkF m (pc + 1) Ls (v :: S)))) : oG p e below F₀ (T.setTop (mkF m pc Ls (.int j :: .ref b :: S))) := by
 obtain ⟨cl, Ar, Sz, Nz, -, ha⟩ := F.opened
 have hin := inb_of (j := j) Sz inb
 exact oS (fun _ q => X.aaload hx (j := j) (v := v) (by rw [eT]; exact Ar.1) (State.isArrayOf_alike hZ.alike Ar.2.1) rfl Ar.2.2 hin ((ha _ hin).trans (congrArg some u)) (g := mkF m pc Ls (.int j :: .ref b :: S)) rfl rfl (hb hby hd) _ q) κ
end OwnNF

theorem own_lmk (k : Int64) (n : Int) (h : k.toInt = n) (y : Int64) : ((k * y).toInt - n * y.toInt) % 18446744073709551616 = 0 := h ▸ c_lmul k y
theorem own_i2l2i (x : Int32) : x.toInt64.toInt32 = x := by simp
theorem own_eqp {a b : Int32} (h : a.toInt = b.toInt) : a.toNatClampNeg = b.toNatClampNeg := by rw [Int32.toInt_inj.mp h]
theorem own_nep {a b : Int32} (ha : 0 ≤ a.toInt) (hb : 0 ≤ b.toInt) (h : ¬ a.toInt = b.toInt) : ¬ a.toNatClampNeg = b.toNatClampNeg := by
 simp only [Int32.toNatClampNeg]; omega
theorem own_cap7 {a : Int32} (h : 0 ≤ a.toInt ∧ a.toInt ≤ 7) : ¬ a < 0 ∧ a.toNatClampNeg ≤ 7 := by
 refine ⟨?_, by simp only [Int32.toNatClampNeg]; omega⟩
 rw [Int32.lt_iff_toInt_lt]
 have : (0 : Int32).toInt = 0 := by decide
 omega
def own_Hi (Z : State) (h : Heap) (aH : Addr) (M : Int32) (mb : Int64) (aS : Addr) (aG : Addr) (hd : Int32) (sz : Int32) (by_ : Int64) (ls : Int64) : Prop := oX5 Z h aH ∧ oF13 Z h aH (.int M) ∧ oF14 Z h aH (.long mb) ∧ oF15 Z h aH (.ref aS) ∧ oF16 Z h aH (.ref aG) ∧ oF17 Z h aH (.int hd) ∧ oF18 Z h aH (.int sz) ∧ oF19 Z h aH (.long by_) ∧ oF20 Z h aH (.long ls)
theorem own_Hi.ext {Z : State} {h h' : Heap} {aH : Addr} {M : Int32} {mb : Int64} {aS : Addr} {aG : Addr} {hd : Int32} {sz : Int32} {by_ : Int64} {ls : Int64} (F : own_Hi Z h aH M mb aS aG hd sz by_ ls) (E : Ext h h') : own_Hi Z h' aH M mb aS aG hd sz by_ ls := by obtain ⟨k0, k1, k2, k3, k4, k5, k6, k7, k8⟩ := F; exact ⟨k0.ext E, k1.ext E, k2.ext E, k3.ext E, k4.ext E, k5.ext E, k6.ext E, k7.ext E, k8.ext E⟩
theorem own_Hi.other {Z : State} {h h' : Heap} {aH : Addr} {M : Int32} {mb : Int64} {aS : Addr} {aG : Addr} {hd : Int32} {sz : Int32} {by_ : Int64} {ls : Int64} (F : own_Hi Z h aH M mb aS aG hd sz by_ ls) {a : Addr} {sl' : Nat} {v : Value} (W : Wr h h' a sl' v) (q0 : aH ≠ a) : own_Hi Z h' aH M mb aS aG hd sz by_ ls := by obtain ⟨k0, k1, k2, k3, k4, k5, k6, k7, k8⟩ := F; exact ⟨k0.wr W, k1.other W (Or.inl q0), k2.other W (Or.inl q0), k3.other W (Or.inl q0), k4.other W (Or.inl q0), k5.other W (Or.inl q0), k6.other W (Or.inl q0), k7.other W (Or.inl q0), k8.other W (Or.inl q0)⟩
theorem own_Hi.keep {Z : State} {h h' : Heap} {aH : Addr} {M : Int32} {mb : Int64} {aS : Addr} {aG : Addr} {hd : Int32} {sz : Int32} {by_ : Int64} {ls : Int64} (F : own_Hi Z h aH M mb aS aG hd sz by_ ls) {ws : List Addr} (K : Keep h h' ws) (q0 : aH ∉ ws) : own_Hi Z h' aH M mb aS aG hd sz by_ ls := by obtain ⟨k0, k1, k2, k3, k4, k5, k6, k7, k8⟩ := F; exact ⟨k0.keep K, k1.keep K q0, k2.keep K q0, k3.keep K q0, k4.keep K q0, k5.keep K q0, k6.keep K q0, k7.keep K q0, k8.keep K q0⟩

theorem own_len {args : Array Value} {s : State} {t : Term} {a : Addr} {cl : Cell} {k : Int32} (ht : t.eval args s none [] s = some (.ref a)) (ha : s.arrayAt? a = some cl) (h : (Term.length t).eval args s none [] s = some (.int k)) : cl.slots.size < 2 ^ 31 ∧ cl.slots.size.toInt32 = k := by
 by_cases q : cl.slots.size < 2 ^ 31
 · rw [len_f ht ha q] at h
   exact ⟨q, by simpa using h⟩
 · simp [Term.eval, ht, ha] at h
   exact absurd h.1 q
theorem own_gx {hd M k : Int32} {x : Int64} (hM : 0 ≤ M.toInt ∧ M.toInt ≤ 7) (hh : 0 ≤ hd.toInt ∧ hd.toInt < M.toInt) (hk : 0 ≤ k.toInt ∧ k.toInt ≤ 2) (hx : x.toInt = k.toInt) : ((hd.toInt64 + x) - ((hd.toInt64 + x) / M.toInt64) * M.toInt64).toInt32 = (hd + k) % M := by
 have a1 := c_ladd hd.toInt64 x
 have a2 := rng64 (hd.toInt64 + x)
 have a3 := c_i2l hd
 have a4 : (hd.toInt64 + x).toInt = hd.toInt + k.toInt := by omega
 have b1 := (c_lrem (hd.toInt64 + x) M.toInt64 M.toInt (c_i2l M)).1 (by omega)
 have c1 := c_iadd hd k
 have c2 := rng32 (hd + k)
 have c3 : (hd + k).toInt = hd.toInt + k.toInt := by omega
 have d1 := (c_irem (hd + k) M M.toInt rfl).1 (by omega)
 have e1 := c_l2i ((hd.toInt64 + x) - ((hd.toInt64 + x) / M.toInt64) * M.toInt64)
 have e2 := rng32 ((hd.toInt64 + x) - ((hd.toInt64 + x) / M.toInt64) * M.toInt64).toInt32
 rw [a4] at b1
 rw [c3] at d1
 have f1 := Int.emod_nonneg (hd.toInt + k.toInt) (show M.toInt ≠ 0 by omega)
 have f2 := Int.emod_lt_of_pos (hd.toInt + k.toInt) (show 0 < M.toInt by omega)
 refine Int32.toInt_inj.mp ?_
 rw [d1]
 rw [b1] at e1
 generalize (hd.toInt + k.toInt) % M.toInt = r at *
 omega
theorem own_gx0 {hd M : Int32} {x : Int64} (hM : 0 ≤ M.toInt ∧ M.toInt ≤ 7) (hh : 0 ≤ hd.toInt ∧ hd.toInt < M.toInt) (hx : x.toInt = (0 : Int32).toInt) : ((hd.toInt64 + x) - ((hd.toInt64 + x) / M.toInt64) * M.toInt64).toInt32 = hd := by
 have z : (0 : Int32).toInt = 0 := by decide
 rw [own_gx hM hh (by omega) hx]
 have c1 := c_iadd hd 0
 have c2 := rng32 (hd + 0)
 have d1 := (c_irem (hd + 0) M M.toInt rfl).1 (by omega)
 have c3 : (hd + 0).toInt = hd.toInt := by omega
 rw [c3, Int.emod_eq_of_lt hh.1 hh.2] at d1
 exact Int32.toInt_inj.mp d1
theorem own_and7 (x : Int32) : 0 ≤ (x &&& 7).toInt ∧ (x &&& 7).toInt ≤ 7 := by
 have h : (x &&& 7) = x &&& 7 := rfl
 have e : (x &&& 7).toInt = ((x &&& 7).toBitVec).toInt := rfl
 have q : ((x &&& 7).toBitVec).toNat ≤ 7 := by
   show (x.toBitVec &&& (7 : Int32).toBitVec).toNat ≤ 7
   rw [BitVec.toNat_and]
   exact Nat.le_trans Nat.and_le_right (by decide)
 rw [e, BitVec.toInt_eq_toNat_cond]
 omega
theorem own_and3 (x : Int32) : 0 ≤ (x &&& 3).toInt ∧ (x &&& 3).toInt ≤ 3 := by
 have e : (x &&& 3).toInt = ((x &&& 3).toBitVec).toInt := rfl
 have q : ((x &&& 3).toBitVec).toNat ≤ 3 := by
   show (x.toBitVec &&& (3 : Int32).toBitVec).toNat ≤ 3
   rw [BitVec.toNat_and]
   exact Nat.le_trans Nat.and_le_right (by decide)
 rw [e, BitVec.toInt_eq_toNat_cond]
 omega
theorem own_land (x k : Int64) (hk : k.toBitVec.toNat ≤ 9223372036854775807) : 0 ≤ (x &&& k).toInt := by
 have e : (x &&& k).toInt = ((x &&& k).toBitVec).toInt := rfl
 have q : ((x &&& k).toBitVec).toNat ≤ 9223372036854775807 := by
   show (x.toBitVec &&& k.toBitVec).toNat ≤ _
   rw [BitVec.toNat_and]
   exact Nat.le_trans Nat.and_le_right hk
 rw [e, BitVec.toInt_eq_toNat_cond]
 omega
theorem own_uv1 (f : Nat → Value) (a b c d : Value) : (own_updV (own_updV (own_updV (own_updV f (0 : Int32).toNatClampNeg a) (1 : Int32).toNatClampNeg b) (2 : Int32).toNatClampNeg c) (3 : Int32).toNatClampNeg d) (1 : Int32).toNatClampNeg = b := rfl
theorem own_uv2 (f : Nat → Value) (a b c d : Value) : (own_updV (own_updV (own_updV (own_updV f (0 : Int32).toNatClampNeg a) (1 : Int32).toNatClampNeg b) (2 : Int32).toNatClampNeg c) (3 : Int32).toNatClampNeg d) (2 : Int32).toNatClampNeg = c := rfl
theorem own_uv3 (f : Nat → Value) (a b c d : Value) : (own_updV (own_updV (own_updV (own_updV f (0 : Int32).toNatClampNeg a) (1 : Int32).toNatClampNeg b) (2 : Int32).toNatClampNeg c) (3 : Int32).toNatClampNeg d) (3 : Int32).toNatClampNeg = d := rfl
theorem own_kx {p : Program} {e : Env} {below : List Frame} {F₀ : State → Outcome → Prop} {B : State} {P : (State → Outcome → Prop) → Prop} (h1 : P F₀) (h2 : P F₀ → oG p e below F₀ B) : oG p e below F₀ B := h2 h1
theorem pn_0 : plainName "java/util/ArrayList" = true := by first | (simp [plainName, overriddenIn]; done) | decide +kernel
theorem pn_1 : plainName "jdk/internal/util/Preconditions" = true := by first | (simp [plainName, overriddenIn]; done) | decide +kernel
theorem pn_2 : plainName "java/util/Objects" = true := by first | (simp [plainName, overriddenIn]; done) | decide +kernel
theorem pn_3 : plainName "java/util/AbstractCollection" = true := by first | (simp [plainName, overriddenIn]; done) | decide +kernel
theorem pn_4 : plainName "java/util/AbstractList" = true := by first | (simp [plainName, overriddenIn]; done) | decide +kernel
theorem pn_5 : plainName "com/example/lockstep/lockstep/session/FrameRoom" = true := by first | (simp [plainName, overriddenIn]; done) | decide +kernel
theorem pn_6 : plainName "com/example/lockstep/lockstep/session/FrameRoom$Share" = true := by first | (simp [plainName, overriddenIn]; done) | decide +kernel
theorem pn_7 : plainName "com/example/lockstep/lockstep/session/Event" = true := by first | (simp [plainName, overriddenIn]; done) | decide +kernel
theorem pn_8 : plainName "com/example/lockstep/lockstep/session/History" = true := by first | (simp [plainName, overriddenIn]; done) | decide +kernel
theorem pn_9 : plainName "com/example/lockstep/lockstep/session/HistoryGetPinLaw" = true := by first | (simp [plainName, overriddenIn]; done) | decide +kernel
abbrev ocl_0 : List String := ["com/example/lockstep/lockstep/session/FrameRoom$Share", "[Ljava/lang/Object;"]
abbrev ocl_1 : List String := ["java/util/ArrayList", "[Ljava/lang/Object;"]
abbrev ocl_2 : List String := ["com/example/lockstep/lockstep/session/FrameRoom$Share", "java/util/ArrayList"]
abbrev ocl_3 : List String := ["com/example/lockstep/lockstep/session/FrameRoom$Share", "java/util/ArrayList", "[Ljava/lang/Object;"]
abbrev ocl_4 : List String := ["com/example/lockstep/lockstep/session/FrameRoom", "com/example/lockstep/lockstep/session/FrameRoom$Share", "java/util/ArrayList", "[Ljava/lang/Object;"]
abbrev ocl_5 : List String := ["com/example/lockstep/lockstep/session/FrameRoom", "com/example/lockstep/lockstep/session/FrameRoom$Share", "java/util/ArrayList"]
abbrev ocl_6 : List String := ["com/example/lockstep/lockstep/session/History", "[Lcom/example/lockstep/lockstep/session/Event;", "com/example/lockstep/lockstep/session/FrameRoom", "com/example/lockstep/lockstep/session/FrameRoom$Share", "java/util/ArrayList", "[Ljava/lang/Object;"]
abbrev ocl_7 : List String := ["com/example/lockstep/lockstep/session/History", "com/example/lockstep/lockstep/session/FrameRoom", "com/example/lockstep/lockstep/session/FrameRoom$Share", "java/util/ArrayList"]
theorem ns_0 : "[Ljava/lang/Object;" ≠ "java/util/ArrayList" := by decide +kernel
theorem ns_1 : "[Ljava/lang/Object;" ≠ "com/example/lockstep/lockstep/session/FrameRoom$Share" := by decide +kernel
theorem ns_2 : "com/example/lockstep/lockstep/session/FrameRoom$Share" ≠ "java/util/ArrayList" := by decide +kernel
theorem ns_3 : "[Ljava/lang/Object;" ≠ "com/example/lockstep/lockstep/session/FrameRoom" := by decide +kernel
theorem ns_4 : "com/example/lockstep/lockstep/session/FrameRoom" ≠ "com/example/lockstep/lockstep/session/FrameRoom$Share" := by decide +kernel
theorem ns_5 : "com/example/lockstep/lockstep/session/FrameRoom" ≠ "java/util/ArrayList" := by decide +kernel
theorem ns_6 : "com/example/lockstep/lockstep/session/FrameRoom" ≠ "com/example/lockstep/lockstep/session/History" := by decide +kernel
theorem ns_7 : "com/example/lockstep/lockstep/session/History" ≠ "java/util/ArrayList" := by decide +kernel
theorem ns_8 : "[Lcom/example/lockstep/lockstep/session/Event;" ≠ "com/example/lockstep/lockstep/session/History" := by decide +kernel
theorem ns_9 : "[Lcom/example/lockstep/lockstep/session/Event;" ≠ "com/example/lockstep/lockstep/session/Event" := by decide +kernel
theorem ns_10 : "[B" ≠ "[Lcom/example/lockstep/lockstep/session/Event;" := by decide +kernel
theorem ns_11 : "[Lcom/example/lockstep/lockstep/session/Event;" ≠ "com/example/lockstep/lockstep/session/FrameRoom" := by decide +kernel
theorem ns_12 : "[Lcom/example/lockstep/lockstep/session/Event;" ≠ "com/example/lockstep/lockstep/session/FrameRoom$Share" := by decide +kernel
theorem ns_13 : "[Lcom/example/lockstep/lockstep/session/Event;" ≠ "java/util/ArrayList" := by decide +kernel
theorem ns_14 : "[Lcom/example/lockstep/lockstep/session/Event;" ≠ "[Ljava/lang/Object;" := by decide +kernel
theorem ns_15 : "com/example/lockstep/lockstep/session/Event" ≠ "com/example/lockstep/lockstep/session/History" := by decide +kernel
theorem ns_16 : "[B" ≠ "com/example/lockstep/lockstep/session/History" := by decide +kernel
theorem ns_17 : "com/example/lockstep/lockstep/session/FrameRoom$Share" ≠ "com/example/lockstep/lockstep/session/History" := by decide +kernel
theorem ns_18 : "[Ljava/lang/Object;" ≠ "com/example/lockstep/lockstep/session/History" := by decide +kernel
theorem ns_19 : "[Ljava/lang/Object;" ≠ "com/example/lockstep/lockstep/session/Event" := by decide +kernel
theorem ns_20 : "com/example/lockstep/lockstep/session/Event" ≠ "java/util/ArrayList" := by decide +kernel
theorem ns_21 : "com/example/lockstep/lockstep/session/Event" ≠ "com/example/lockstep/lockstep/session/FrameRoom$Share" := by decide +kernel
theorem ns_22 : "com/example/lockstep/lockstep/session/Event" ≠ "com/example/lockstep/lockstep/session/FrameRoom" := by decide +kernel
theorem ns_23 : "[B" ≠ "[Ljava/lang/Object;" := by decide +kernel
theorem ns_24 : "[B" ≠ "java/util/ArrayList" := by decide +kernel
theorem ns_25 : "[B" ≠ "com/example/lockstep/lockstep/session/FrameRoom$Share" := by decide +kernel
theorem ns_26 : "[B" ≠ "com/example/lockstep/lockstep/session/FrameRoom" := by decide +kernel
theorem nc_0 : "com/example/lockstep/lockstep/session/FrameRoom" ∉ ocl_0 := (own_sni ns_4 (own_sni (Ne.symm ns_3) own_sn0))
theorem nc_1 : "java/util/ArrayList" ∉ ocl_0 := (own_sni (Ne.symm ns_2) (own_sni (Ne.symm ns_0) own_sn0))
theorem nc_2 : "com/example/lockstep/lockstep/session/FrameRoom" ∉ ocl_1 := (own_sni ns_5 (own_sni (Ne.symm ns_3) own_sn0))
theorem nc_3 : "com/example/lockstep/lockstep/session/FrameRoom$Share" ∉ ocl_1 := (own_sni ns_2 (own_sni (Ne.symm ns_1) own_sn0))
theorem nc_4 : "com/example/lockstep/lockstep/session/FrameRoom" ∉ ocl_2 := (own_sni ns_4 (own_sni ns_5 own_sn0))
theorem nc_5 : "com/example/lockstep/lockstep/session/FrameRoom" ∉ ocl_3 := (own_sni ns_4 (own_sni ns_5 (own_sni (Ne.symm ns_3) own_sn0)))
theorem nc_6 : "com/example/lockstep/lockstep/session/Event" ∉ ocl_4 := (own_sni ns_22 (own_sni ns_21 (own_sni ns_20 (own_sni (Ne.symm ns_19) own_sn0))))
theorem nc_7 : "[B" ∉ ocl_4 := (own_sni ns_26 (own_sni ns_25 (own_sni ns_24 (own_sni ns_23 own_sn0))))
theorem nc_8 : "[Lcom/example/lockstep/lockstep/session/Event;" ∉ ocl_4 := (own_sni ns_11 (own_sni ns_12 (own_sni ns_13 (own_sni ns_14 own_sn0))))
theorem nc_9 : "com/example/lockstep/lockstep/session/History" ∉ ocl_4 := (own_sni (Ne.symm ns_6) (own_sni (Ne.symm ns_17) (own_sni ns_7 (own_sni (Ne.symm ns_18) own_sn0))))
theorem nc_10 : "com/example/lockstep/lockstep/session/History" ∉ ocl_5 := (own_sni (Ne.symm ns_6) (own_sni (Ne.symm ns_17) (own_sni ns_7 own_sn0)))
theorem nc_11 : "[Lcom/example/lockstep/lockstep/session/Event;" ∉ ocl_5 := (own_sni ns_11 (own_sni ns_12 (own_sni ns_13 own_sn0)))
theorem nc_12 : "com/example/lockstep/lockstep/session/Event" ∉ ocl_5 := (own_sni ns_22 (own_sni ns_21 (own_sni ns_20 own_sn0)))
theorem nc_13 : "[B" ∉ ocl_5 := (own_sni ns_26 (own_sni ns_25 (own_sni ns_24 own_sn0)))
theorem nc_14 : "com/example/lockstep/lockstep/session/Event" ∉ ocl_6 := (own_sni ns_15 (own_sni (Ne.symm ns_9) (own_sni ns_22 (own_sni ns_21 (own_sni ns_20 (own_sni (Ne.symm ns_19) own_sn0))))))
theorem nc_15 : "[B" ∉ ocl_6 := (own_sni ns_16 (own_sni ns_10 (own_sni ns_26 (own_sni ns_25 (own_sni ns_24 (own_sni ns_23 own_sn0))))))
theorem nc_16 : "[Lcom/example/lockstep/lockstep/session/Event;" ∉ ocl_7 := (own_sni ns_8 (own_sni ns_11 (own_sni ns_12 (own_sni ns_13 own_sn0))))
theorem nc_17 : "com/example/lockstep/lockstep/session/Event" ∉ ocl_7 := (own_sni ns_15 (own_sni ns_22 (own_sni ns_21 (own_sni ns_20 own_sn0))))
theorem nc_18 : "[B" ∉ ocl_7 := (own_sni ns_16 (own_sni ns_26 (own_sni ns_25 (own_sni ns_24 own_sn0))))
theorem ft_0 : parseFieldDescriptor "[Ljava/lang/Object;" = some (.array (.object "java/lang/Object")) := by decide +kernel
theorem ft_1 : parseFieldDescriptor "I" = some .int := by decide +kernel
theorem ft_2 : parseFieldDescriptor "J" = some .long := by decide +kernel
theorem ft_3 : parseFieldDescriptor "Lcom/example/lockstep/lockstep/session/FrameRoom;" = some (.object "com/example/lockstep/lockstep/session/FrameRoom") := by decide +kernel
theorem ft_4 : parseFieldDescriptor "Ljava/util/List;" = some (.object "java/util/List") := by decide +kernel
theorem ft_5 : parseFieldDescriptor "[B" = some (.array .byte) := by decide +kernel
theorem ft_6 : parseFieldDescriptor "Lcom/example/lockstep/lockstep/session/FrameRoom$Order;" = some (.object "com/example/lockstep/lockstep/session/FrameRoom$Order") := by decide +kernel
theorem ft_7 : parseFieldDescriptor "Ljava/lang/Runnable;" = some (.object "java/lang/Runnable") := by decide +kernel
theorem ft_8 : parseFieldDescriptor "[Lcom/example/lockstep/lockstep/session/Event;" = some (.array (.object "com/example/lockstep/lockstep/session/Event")) := by decide +kernel
theorem ft_9 : parseFieldDescriptor "Lcom/example/lockstep/lockstep/session/FrameRoom$Share;" = some (.object "com/example/lockstep/lockstep/session/FrameRoom$Share") := by decide +kernel
theorem hy_0 : "jdk/internal/util/Preconditions" ≠ "java/lang/invoke/MethodHandle" ∧ "jdk/internal/util/Preconditions" ≠ "java/lang/invoke/VarHandle" := by decide +kernel
theorem hy_1 : "java/util/Objects" ≠ "java/lang/invoke/MethodHandle" ∧ "java/util/Objects" ≠ "java/lang/invoke/VarHandle" := by decide +kernel
theorem hy_2 : "java/util/ArrayList" ≠ "java/lang/invoke/MethodHandle" ∧ "java/util/ArrayList" ≠ "java/lang/invoke/VarHandle" := by decide +kernel
theorem hy_3 : "java/lang/Math" ≠ "java/lang/invoke/MethodHandle" ∧ "java/lang/Math" ≠ "java/lang/invoke/VarHandle" := by decide +kernel
theorem hy_4 : "java/util/AbstractCollection" ≠ "java/lang/invoke/MethodHandle" ∧ "java/util/AbstractCollection" ≠ "java/lang/invoke/VarHandle" := by decide +kernel
theorem hy_5 : "java/util/AbstractList" ≠ "java/lang/invoke/MethodHandle" ∧ "java/util/AbstractList" ≠ "java/lang/invoke/VarHandle" := by decide +kernel
theorem hy_6 : "java/util/List" ≠ "java/lang/invoke/MethodHandle" ∧ "java/util/List" ≠ "java/lang/invoke/VarHandle" := by decide +kernel
theorem hy_7 : "com/example/lockstep/lockstep/session/FrameRoom" ≠ "java/lang/invoke/MethodHandle" ∧ "com/example/lockstep/lockstep/session/FrameRoom" ≠ "java/lang/invoke/VarHandle" := by decide +kernel
theorem hy_8 : "com/example/lockstep/lockstep/session/Event" ≠ "java/lang/invoke/MethodHandle" ∧ "com/example/lockstep/lockstep/session/Event" ≠ "java/lang/invoke/VarHandle" := by decide +kernel
theorem hy_9 : "com/example/lockstep/lockstep/session/History" ≠ "java/lang/invoke/MethodHandle" ∧ "com/example/lockstep/lockstep/session/History" ≠ "java/lang/invoke/VarHandle" := by decide +kernel
theorem hy_10 : "com/example/lockstep/lockstep/session/FrameRoom$Share" ≠ "java/lang/invoke/MethodHandle" ∧ "com/example/lockstep/lockstep/session/FrameRoom$Share" ≠ "java/lang/invoke/VarHandle" := by decide +kernel
theorem hy_11 : "com/example/lockstep/lockstep/session/HistoryGetPinLaw" ≠ "java/lang/invoke/MethodHandle" ∧ "com/example/lockstep/lockstep/session/HistoryGetPinLaw" ≠ "java/lang/invoke/VarHandle" := by decide +kernel
theorem sn_0 {a0 Z} (hw : oW a0 Z) : os0 Z ≠ os1 Z := own_snL hw 172 65 ft_1 ft_0
theorem sn_1 {a0 Z} (hw : oW a0 Z) : os2 Z ≠ os1 Z := own_snL hw 62 65 ft_1 ft_0
theorem sn_2 {a0 Z} (hw : oW a0 Z) : os1 Z ≠ os0 Z := own_snL hw 65 172 ft_0 ft_1
theorem sn_3 {a0 Z} (hw : oW a0 Z) : os2 Z ≠ os0 Z := own_snL hw 62 172 ft_1 ft_1
theorem sn_4 {a0 Z} (hw : oW a0 Z) : os1 Z ≠ os2 Z := own_snL hw 65 62 ft_0 ft_1
theorem sn_5 {a0 Z} (hw : oW a0 Z) : os0 Z ≠ os2 Z := own_snL hw 172 62 ft_1 ft_1
theorem sn_6 {a0 Z} (hw : oW a0 Z) : os3 Z ≠ os4 Z := own_snL hw 141 102 ft_2 ft_1
theorem sn_7 {a0 Z} (hw : oW a0 Z) : os5 Z ≠ os4 Z := own_snL hw 156 102 ft_2 ft_1
theorem sn_8 {a0 Z} (hw : oW a0 Z) : os6 Z ≠ os4 Z := own_snF hw 99 102 ft_3 ft_1
theorem sn_9 {a0 Z} (hw : oW a0 Z) : os7 Z ≠ os8 Z := own_snF hw 69 151 ft_2 ft_2
theorem sn_10 {a0 Z} (hw : oW a0 Z) : os9 Z ≠ os8 Z := own_snF hw 67 151 ft_4 ft_2
theorem sn_11 {a0 Z} (hw : oW a0 Z) : os10 Z ≠ os8 Z := own_snL hw 154 151 ft_2 ft_2
theorem sn_12 {a0 Z} (hw : oW a0 Z) : os6 Z ≠ os3 Z := own_snF hw 99 141 ft_3 ft_2
theorem sn_13 {a0 Z} (hw : oW a0 Z) : os5 Z ≠ os3 Z := own_snL hw 156 141 ft_2 ft_2
theorem sn_14 {a0 Z} (hw : oW a0 Z) : os4 Z ≠ os3 Z := own_snL hw 102 141 ft_1 ft_2
theorem sn_15 {a0 Z} (hw : oW a0 Z) : os7 Z ≠ os10 Z := own_snF hw 69 154 ft_2 ft_2
theorem sn_16 {a0 Z} (hw : oW a0 Z) : os9 Z ≠ os10 Z := own_snF hw 67 154 ft_4 ft_2
theorem sn_17 {a0 Z} (hw : oW a0 Z) : os8 Z ≠ os10 Z := own_snL hw 151 154 ft_2 ft_2
theorem sn_18 {a0 Z} (hw : oW a0 Z) : os6 Z ≠ os5 Z := own_snF hw 99 156 ft_3 ft_2
theorem sn_19 {a0 Z} (hw : oW a0 Z) : os4 Z ≠ os5 Z := own_snL hw 102 156 ft_1 ft_2
theorem sn_20 {a0 Z} (hw : oW a0 Z) : os3 Z ≠ os5 Z := own_snL hw 141 156 ft_2 ft_2
theorem sn_21 {a0 Z} (hw : oW a0 Z) : os11 Z ≠ os12 Z := own_snFF hw 19 17 ft_2 ft_2
theorem sn_22 {a0 Z} (hw : oW a0 Z) : os13 Z ≠ os12 Z := own_snFF hw 21 17 ft_5 ft_2
theorem sn_23 {a0 Z} (hw : oW a0 Z) : os13 Z ≠ os11 Z := own_snFF hw 21 19 ft_5 ft_2
theorem sn_24 {a0 Z} (hw : oW a0 Z) : os12 Z ≠ os11 Z := own_snFF hw 17 19 ft_2 ft_2
theorem sn_25 {a0 Z} (hw : oW a0 Z) : os12 Z ≠ os13 Z := own_snFF hw 17 21 ft_2 ft_5
theorem sn_26 {a0 Z} (hw : oW a0 Z) : os11 Z ≠ os13 Z := own_snFF hw 19 21 ft_2 ft_5
theorem sn_27 {a0 Z} (hw : oW a0 Z) : os7 Z ≠ os9 Z := own_snFF hw 69 67 ft_2 ft_4
theorem sn_28 {a0 Z} (hw : oW a0 Z) : os14 Z ≠ os9 Z := own_snFF hw 71 67 ft_6 ft_4
theorem sn_29 {a0 Z} (hw : oW a0 Z) : os8 Z ≠ os9 Z := own_snLF hw 151 67 ft_2 ft_4
theorem sn_30 {a0 Z} (hw : oW a0 Z) : os10 Z ≠ os9 Z := own_snLF hw 154 67 ft_2 ft_4
theorem sn_31 {a0 Z} (hw : oW a0 Z) : os14 Z ≠ os7 Z := own_snFF hw 71 69 ft_6 ft_2
theorem sn_32 {a0 Z} (hw : oW a0 Z) : os8 Z ≠ os7 Z := own_snLF hw 151 69 ft_2 ft_2
theorem sn_33 {a0 Z} (hw : oW a0 Z) : os10 Z ≠ os7 Z := own_snLF hw 154 69 ft_2 ft_2
theorem sn_34 {a0 Z} (hw : oW a0 Z) : os9 Z ≠ os7 Z := own_snFF hw 67 69 ft_4 ft_2
theorem sn_35 {a0 Z} (hw : oW a0 Z) : os8 Z ≠ os14 Z := own_snLF hw 151 71 ft_2 ft_6
theorem sn_36 {a0 Z} (hw : oW a0 Z) : os10 Z ≠ os14 Z := own_snLF hw 154 71 ft_2 ft_6
theorem sn_37 {a0 Z} (hw : oW a0 Z) : os9 Z ≠ os14 Z := own_snFF hw 67 71 ft_4 ft_6
theorem sn_38 {a0 Z} (hw : oW a0 Z) : os7 Z ≠ os14 Z := own_snFF hw 69 71 ft_2 ft_6
theorem sn_39 {a0 Z} (hw : oW a0 Z) : os3 Z ≠ os6 Z := own_snLF hw 141 99 ft_2 ft_3
theorem sn_40 {a0 Z} (hw : oW a0 Z) : os5 Z ≠ os6 Z := own_snLF hw 156 99 ft_2 ft_3
theorem sn_41 {a0 Z} (hw : oW a0 Z) : os4 Z ≠ os6 Z := own_snLF hw 102 99 ft_1 ft_3
theorem sn_42 {a0 Z} (hw : oW a0 Z) : os15 Z ≠ os6 Z := own_snFF hw 104 99 ft_7 ft_3
theorem sn_43 {a0 Z} (hw : oW a0 Z) : os15 Z ≠ os4 Z := own_snF hw 104 102 ft_7 ft_1
theorem sn_44 {a0 Z} (hw : oW a0 Z) : os3 Z ≠ os15 Z := own_snLF hw 141 104 ft_2 ft_7
theorem sn_45 {a0 Z} (hw : oW a0 Z) : os5 Z ≠ os15 Z := own_snLF hw 156 104 ft_2 ft_7
theorem sn_46 {a0 Z} (hw : oW a0 Z) : os6 Z ≠ os15 Z := own_snFF hw 99 104 ft_3 ft_7
theorem sn_47 {a0 Z} (hw : oW a0 Z) : os4 Z ≠ os15 Z := own_snLF hw 102 104 ft_1 ft_7
theorem sn_48 {a0 Z} (hw : oW a0 Z) : os16 Z ≠ os17 Z := own_snF hw 80 78 ft_1 ft_8
theorem sn_49 {a0 Z} (hw : oW a0 Z) : os18 Z ≠ os17 Z := own_snF hw 82 78 ft_2 ft_8
theorem sn_50 {a0 Z} (hw : oW a0 Z) : os19 Z ≠ os17 Z := own_snF hw 106 78 ft_9 ft_8
theorem sn_51 {a0 Z} (hw : oW a0 Z) : os20 Z ≠ os17 Z := own_snL hw 247 78 ft_1 ft_8
theorem sn_52 {a0 Z} (hw : oW a0 Z) : os21 Z ≠ os17 Z := own_snL hw 115 78 ft_1 ft_8
theorem sn_53 {a0 Z} (hw : oW a0 Z) : os22 Z ≠ os17 Z := own_snL hw 249 78 ft_2 ft_8
theorem sn_54 {a0 Z} (hw : oW a0 Z) : os23 Z ≠ os17 Z := own_snL hw 113 78 ft_2 ft_8
theorem sn_55 {a0 Z} (hw : oW a0 Z) : os18 Z ≠ os16 Z := own_snFF hw 82 80 ft_2 ft_1
theorem sn_56 {a0 Z} (hw : oW a0 Z) : os19 Z ≠ os16 Z := own_snFF hw 106 80 ft_9 ft_1
theorem sn_57 {a0 Z} (hw : oW a0 Z) : os20 Z ≠ os16 Z := own_snLF hw 247 80 ft_1 ft_1
theorem sn_58 {a0 Z} (hw : oW a0 Z) : os21 Z ≠ os16 Z := own_snLF hw 115 80 ft_1 ft_1
theorem sn_59 {a0 Z} (hw : oW a0 Z) : os22 Z ≠ os16 Z := own_snLF hw 249 80 ft_2 ft_1
theorem sn_60 {a0 Z} (hw : oW a0 Z) : os23 Z ≠ os16 Z := own_snLF hw 113 80 ft_2 ft_1
theorem sn_61 {a0 Z} (hw : oW a0 Z) : os17 Z ≠ os16 Z := own_snLF hw 78 80 ft_8 ft_1
theorem sn_62 {a0 Z} (hw : oW a0 Z) : os19 Z ≠ os18 Z := own_snFF hw 106 82 ft_9 ft_2
theorem sn_63 {a0 Z} (hw : oW a0 Z) : os20 Z ≠ os18 Z := own_snLF hw 247 82 ft_1 ft_2
theorem sn_64 {a0 Z} (hw : oW a0 Z) : os21 Z ≠ os18 Z := own_snLF hw 115 82 ft_1 ft_2
theorem sn_65 {a0 Z} (hw : oW a0 Z) : os22 Z ≠ os18 Z := own_snLF hw 249 82 ft_2 ft_2
theorem sn_66 {a0 Z} (hw : oW a0 Z) : os23 Z ≠ os18 Z := own_snLF hw 113 82 ft_2 ft_2
theorem sn_67 {a0 Z} (hw : oW a0 Z) : os17 Z ≠ os18 Z := own_snLF hw 78 82 ft_8 ft_2
theorem sn_68 {a0 Z} (hw : oW a0 Z) : os16 Z ≠ os18 Z := own_snFF hw 80 82 ft_1 ft_2
theorem sn_69 {a0 Z} (hw : oW a0 Z) : os20 Z ≠ os19 Z := own_snLF hw 247 106 ft_1 ft_9
theorem sn_70 {a0 Z} (hw : oW a0 Z) : os21 Z ≠ os19 Z := own_snLF hw 115 106 ft_1 ft_9
theorem sn_71 {a0 Z} (hw : oW a0 Z) : os22 Z ≠ os19 Z := own_snLF hw 249 106 ft_2 ft_9
theorem sn_72 {a0 Z} (hw : oW a0 Z) : os23 Z ≠ os19 Z := own_snLF hw 113 106 ft_2 ft_9
theorem sn_73 {a0 Z} (hw : oW a0 Z) : os17 Z ≠ os19 Z := own_snLF hw 78 106 ft_8 ft_9
theorem sn_74 {a0 Z} (hw : oW a0 Z) : os16 Z ≠ os19 Z := own_snFF hw 80 106 ft_1 ft_9
theorem sn_75 {a0 Z} (hw : oW a0 Z) : os18 Z ≠ os19 Z := own_snFF hw 82 106 ft_2 ft_9
theorem sn_76 {a0 Z} (hw : oW a0 Z) : os16 Z ≠ os20 Z := own_snF hw 80 247 ft_1 ft_1
theorem sn_77 {a0 Z} (hw : oW a0 Z) : os18 Z ≠ os20 Z := own_snF hw 82 247 ft_2 ft_1
theorem sn_78 {a0 Z} (hw : oW a0 Z) : os19 Z ≠ os20 Z := own_snF hw 106 247 ft_9 ft_1
theorem sn_79 {a0 Z} (hw : oW a0 Z) : os21 Z ≠ os20 Z := own_snL hw 115 247 ft_1 ft_1
theorem sn_80 {a0 Z} (hw : oW a0 Z) : os22 Z ≠ os20 Z := own_snL hw 249 247 ft_2 ft_1
theorem sn_81 {a0 Z} (hw : oW a0 Z) : os23 Z ≠ os20 Z := own_snL hw 113 247 ft_2 ft_1
theorem sn_82 {a0 Z} (hw : oW a0 Z) : os17 Z ≠ os20 Z := own_snL hw 78 247 ft_8 ft_1
theorem sn_83 {a0 Z} (hw : oW a0 Z) : os16 Z ≠ os21 Z := own_snF hw 80 115 ft_1 ft_1
theorem sn_84 {a0 Z} (hw : oW a0 Z) : os18 Z ≠ os21 Z := own_snF hw 82 115 ft_2 ft_1
theorem sn_85 {a0 Z} (hw : oW a0 Z) : os19 Z ≠ os21 Z := own_snF hw 106 115 ft_9 ft_1
theorem sn_86 {a0 Z} (hw : oW a0 Z) : os17 Z ≠ os21 Z := own_snL hw 78 115 ft_8 ft_1
theorem sn_87 {a0 Z} (hw : oW a0 Z) : os22 Z ≠ os21 Z := own_snL hw 249 115 ft_2 ft_1
theorem sn_88 {a0 Z} (hw : oW a0 Z) : os23 Z ≠ os21 Z := own_snL hw 113 115 ft_2 ft_1
theorem sn_89 {a0 Z} (hw : oW a0 Z) : os20 Z ≠ os21 Z := own_snL hw 247 115 ft_1 ft_1
theorem sn_90 {a0 Z} (hw : oW a0 Z) : os16 Z ≠ os22 Z := own_snF hw 80 249 ft_1 ft_2
theorem sn_91 {a0 Z} (hw : oW a0 Z) : os18 Z ≠ os22 Z := own_snF hw 82 249 ft_2 ft_2
theorem sn_92 {a0 Z} (hw : oW a0 Z) : os19 Z ≠ os22 Z := own_snF hw 106 249 ft_9 ft_2
theorem sn_93 {a0 Z} (hw : oW a0 Z) : os17 Z ≠ os22 Z := own_snL hw 78 249 ft_8 ft_2
theorem sn_94 {a0 Z} (hw : oW a0 Z) : os23 Z ≠ os22 Z := own_snL hw 113 249 ft_2 ft_2
theorem sn_95 {a0 Z} (hw : oW a0 Z) : os20 Z ≠ os22 Z := own_snL hw 247 249 ft_1 ft_2
theorem sn_96 {a0 Z} (hw : oW a0 Z) : os21 Z ≠ os22 Z := own_snL hw 115 249 ft_1 ft_2
theorem sn_97 {a0 Z} (hw : oW a0 Z) : os16 Z ≠ os23 Z := own_snF hw 80 113 ft_1 ft_2
theorem sn_98 {a0 Z} (hw : oW a0 Z) : os18 Z ≠ os23 Z := own_snF hw 82 113 ft_2 ft_2
theorem sn_99 {a0 Z} (hw : oW a0 Z) : os19 Z ≠ os23 Z := own_snF hw 106 113 ft_9 ft_2
theorem sn_100 {a0 Z} (hw : oW a0 Z) : os17 Z ≠ os23 Z := own_snL hw 78 113 ft_8 ft_2
theorem sn_101 {a0 Z} (hw : oW a0 Z) : os20 Z ≠ os23 Z := own_snL hw 247 113 ft_1 ft_2
theorem sn_102 {a0 Z} (hw : oW a0 Z) : os21 Z ≠ os23 Z := own_snL hw 115 113 ft_1 ft_2
theorem sn_103 {a0 Z} (hw : oW a0 Z) : os22 Z ≠ os23 Z := own_snL hw 249 113 ft_2 ft_2
theorem pd_0 : parseMethodDescriptor "(IILjava/util/function/BiFunction;)I" = some ⟨[.int, .int, (.object "java/util/function/BiFunction")], some .int⟩ := by decide +kernel
theorem pd_1 : parseMethodDescriptor "(II)I" = some ⟨[.int, .int], some .int⟩ := by decide +kernel
theorem pd_2 : parseMethodDescriptor "(I)Ljava/lang/Object;" = some ⟨[.int], some (.object "java/lang/Object")⟩ := by decide +kernel
theorem pd_3 : parseMethodDescriptor "(I)[Ljava/lang/Object;" = some ⟨[.int], some (.array (.object "java/lang/Object"))⟩ := by decide +kernel
theorem pd_4 : parseMethodDescriptor "()[Ljava/lang/Object;" = some ⟨[], some (.array (.object "java/lang/Object"))⟩ := by decide +kernel
theorem pd_5 : parseMethodDescriptor "(Ljava/lang/Object;[Ljava/lang/Object;I)V" = some ⟨[(.object "java/lang/Object"), (.array (.object "java/lang/Object")), .int], none⟩ := by decide +kernel
theorem pd_6 : parseMethodDescriptor "([Ljava/lang/Object;I)V" = some ⟨[(.array (.object "java/lang/Object")), .int], none⟩ := by decide +kernel
theorem pd_7 : parseMethodDescriptor "()V" = some ⟨[], none⟩ := by decide +kernel
theorem pd_8 : parseMethodDescriptor "(ILjava/lang/Object;)Ljava/lang/Object;" = some ⟨[.int, (.object "java/lang/Object")], some (.object "java/lang/Object")⟩ := by decide +kernel
theorem pd_9 : parseMethodDescriptor "(Lcom/example/lockstep/lockstep/session/FrameRoom$Share;I)V" = some ⟨[(.object "com/example/lockstep/lockstep/session/FrameRoom$Share"), .int], none⟩ := by decide +kernel
theorem pd_10 : parseMethodDescriptor "()I" = some ⟨[], some .int⟩ := by decide +kernel
theorem pd_11 : parseMethodDescriptor "()Z" = some ⟨[], some .boolean⟩ := by decide +kernel
theorem pd_12 : parseMethodDescriptor "(Lcom/example/lockstep/lockstep/session/FrameRoom$Share;)Lcom/example/lockstep/lockstep/session/FrameRoom$Share;" = some ⟨[(.object "com/example/lockstep/lockstep/session/FrameRoom$Share")], some (.object "com/example/lockstep/lockstep/session/FrameRoom$Share")⟩ := by decide +kernel
theorem pd_13 : parseMethodDescriptor "(Ljava/lang/Object;)Z" = some ⟨[(.object "java/lang/Object")], some .boolean⟩ := by decide +kernel
theorem pd_14 : parseMethodDescriptor "(Lcom/example/lockstep/lockstep/session/FrameRoom$Share;)V" = some ⟨[(.object "com/example/lockstep/lockstep/session/FrameRoom$Share")], none⟩ := by decide +kernel
theorem pd_15 : parseMethodDescriptor "(Lcom/example/lockstep/lockstep/session/FrameRoom$Share;JJ)Lcom/example/lockstep/lockstep/session/FrameRoom$Share;" = some ⟨[(.object "com/example/lockstep/lockstep/session/FrameRoom$Share"), .long, .long], some (.object "com/example/lockstep/lockstep/session/FrameRoom$Share")⟩ := by decide +kernel
theorem pd_16 : parseMethodDescriptor "(Lcom/example/lockstep/lockstep/session/FrameRoom$Share;JJ)Z" = some ⟨[(.object "com/example/lockstep/lockstep/session/FrameRoom$Share"), .long, .long], some .boolean⟩ := by decide +kernel
theorem pd_17 : parseMethodDescriptor "(Lcom/example/lockstep/lockstep/session/FrameRoom$Share;J)V" = some ⟨[(.object "com/example/lockstep/lockstep/session/FrameRoom$Share"), .long], none⟩ := by decide +kernel
theorem pd_18 : parseMethodDescriptor "(JLcom/example/lockstep/lockstep/session/FrameRoom$Order;)V" = some ⟨[.long, (.object "com/example/lockstep/lockstep/session/FrameRoom$Order")], none⟩ := by decide +kernel
theorem pd_19 : parseMethodDescriptor "(Lcom/example/lockstep/lockstep/session/FrameRoom;Ljava/lang/Runnable;)V" = some ⟨[(.object "com/example/lockstep/lockstep/session/FrameRoom"), (.object "java/lang/Runnable")], none⟩ := by decide +kernel
theorem pd_20 : parseMethodDescriptor "(Ljava/lang/Runnable;)Lcom/example/lockstep/lockstep/session/FrameRoom$Share;" = some ⟨[(.object "java/lang/Runnable")], some (.object "com/example/lockstep/lockstep/session/FrameRoom$Share")⟩ := by decide +kernel
theorem pd_21 : parseMethodDescriptor "()[B" = some ⟨[], some (.array .byte)⟩ := by decide +kernel
theorem pd_22 : parseMethodDescriptor "(I)J" = some ⟨[.int], some .long⟩ := by decide +kernel
theorem pd_23 : parseMethodDescriptor "(J)V" = some ⟨[.long], none⟩ := by decide +kernel
theorem pd_24 : parseMethodDescriptor "(J)Z" = some ⟨[.long], some .boolean⟩ := by decide +kernel
theorem pd_25 : parseMethodDescriptor "()J" = some ⟨[], some .long⟩ := by decide +kernel
theorem pd_26 : parseMethodDescriptor "(JJ)J" = some ⟨[.long, .long], some .long⟩ := by decide +kernel
theorem pd_27 : parseMethodDescriptor "(I)V" = some ⟨[.int], none⟩ := by decide +kernel
theorem pd_28 : parseMethodDescriptor "(IJIJJ)Z" = some ⟨[.int, .long, .int, .long, .long], some .boolean⟩ := by decide +kernel
theorem pd_29 : parseMethodDescriptor "(J)Lcom/example/lockstep/lockstep/session/Event;" = some ⟨[.long], some (.object "com/example/lockstep/lockstep/session/Event")⟩ := by decide +kernel
theorem pd_30 : parseMethodDescriptor "(I[IIJJ)I" = some ⟨[.int, (.array .int), .int, .long, .long], some .int⟩ := by decide +kernel
theorem pd_31 : parseMethodDescriptor "(Lcom/example/lockstep/lockstep/session/Event;)V" = some ⟨[(.object "com/example/lockstep/lockstep/session/Event")], none⟩ := by decide +kernel
theorem pd_32 : parseMethodDescriptor "(JJ[B)V" = some ⟨[.long, .long, (.array .byte)], none⟩ := by decide +kernel
theorem pd_33 : parseMethodDescriptor "(IJLcom/example/lockstep/lockstep/session/FrameRoom;)V" = some ⟨[.int, .long, (.object "com/example/lockstep/lockstep/session/FrameRoom")], none⟩ := by decide +kernel
theorem q37_0 : dc kc37 0 (.aload_n 0) 1 := dk
theorem q37_1 : dc kc37 1 (.invokespecial 1) 3 := dk
theorem q37_4 : dc kc37 4 .return_ 1 := dk
theorem q29_0 : dc kc29 0 (.iload_n 0) 1 := dk
theorem q29_1 : dc kc29 1 (.iload_n 1) 1 := dk
theorem q29_2 : dc kc29 2 (.if_icmp .lt 7) 3 := dk
theorem q29_5 : dc kc29 5 (.iload_n 0) 1 := dk
theorem q29_6 : dc kc29 6 (.goto 4) 3 := dk
theorem q29_10 : dc kc29 10 .ireturn 1 := dk
theorem q26_0 : dc kc26 0 (.lload_n 0) 1 := dk
theorem q26_1 : dc kc26 1 (.lload_n 2) 1 := dk
theorem q26_2 : dc kc26 2 .lcmp 1 := dk
theorem q26_3 : dc kc26 3 (.ifCond .lt 7) 3 := dk
theorem q26_6 : dc kc26 6 (.lload_n 0) 1 := dk
theorem q26_7 : dc kc26 7 (.goto 4) 3 := dk
theorem q26_11 : dc kc26 11 .lreturn 1 := dk
theorem q34_0 : dc kc34 0 (.lload_n 0) 1 := dk
theorem q34_1 : dc kc34 1 (.lload_n 2) 1 := dk
theorem q34_2 : dc kc34 2 .lcmp 1 := dk
theorem q34_3 : dc kc34 3 (.ifCond .gt 7) 3 := dk
theorem q34_6 : dc kc34 6 (.lload_n 0) 1 := dk
theorem q34_7 : dc kc34 7 (.goto 4) 3 := dk
theorem q34_11 : dc kc34 11 .lreturn 1 := dk
theorem q14_0 : dc kc14 0 (.iload_n 0) 1 := dk
theorem q14_1 : dc kc14 1 (.iload_n 1) 1 := dk
theorem q14_2 : dc kc14 2 .aconst_null 1 := dk
theorem q14_3 : dc kc14 3 (.invokestatic 105) 3 := dk
theorem q14_6 : dc kc14 6 .ireturn 1 := dk
theorem q33_0 : dc kc33 0 (.aload_n 0) 1 := dk
theorem q33_1 : dc kc33 1 (.getfield 9) 3 := dk
theorem q33_4 : dc kc33 4 (.iload_n 1) 1 := dk
theorem q33_5 : dc kc33 5 .aaload 1 := dk
theorem q33_6 : dc kc33 6 .areturn 1 := dk
theorem q11_0 : dc kc11 0 (.iload_n 1) 1 := dk
theorem q11_1 : dc kc11 1 (.aload_n 0) 1 := dk
theorem q11_2 : dc kc11 2 (.getfield 48) 3 := dk
theorem q11_5 : dc kc11 5 (.invokestatic 118) 3 := dk
theorem q11_8 : dc kc11 8 .pop 1 := dk
theorem q11_9 : dc kc11 9 (.aload_n 0) 1 := dk
theorem q11_10 : dc kc11 10 (.iload_n 1) 1 := dk
theorem q11_11 : dc kc11 11 (.invokevirtual 123) 3 := dk
theorem q11_14 : dc kc11 14 .areturn 1 := dk
theorem q30_0 : dc kc30 0 (.iload_n 1) 1 := dk
theorem q30_1 : dc kc30 1 (.aload_n 0) 1 := dk
theorem q30_2 : dc kc30 2 (.getfield 48) 3 := dk
theorem q30_5 : dc kc30 5 (.invokestatic 118) 3 := dk
theorem q30_8 : dc kc30 8 .pop 1 := dk
theorem q30_9 : dc kc30 9 (.aload_n 0) 1 := dk
theorem q30_10 : dc kc30 10 (.iload_n 1) 1 := dk
theorem q30_11 : dc kc30 11 (.invokevirtual 123) 3 := dk
theorem q30_14 : dc kc30 14 (.astore_n 3) 1 := dk
theorem q30_15 : dc kc30 15 (.aload_n 0) 1 := dk
theorem q30_16 : dc kc30 16 (.getfield 9) 3 := dk
theorem q30_19 : dc kc30 19 (.iload_n 1) 1 := dk
theorem q30_20 : dc kc30 20 (.aload_n 2) 1 := dk
theorem q30_21 : dc kc30 21 .aastore 1 := dk
theorem q30_22 : dc kc30 22 (.aload_n 3) 1 := dk
theorem q30_23 : dc kc30 23 .areturn 1 := dk
theorem q9_0 : dc kc9 0 (.iload_n 3) 1 := dk
theorem q9_1 : dc kc9 1 (.aload_n 2) 1 := dk
theorem q9_2 : dc kc9 2 .arraylength 1 := dk
theorem q9_3 : dc kc9 3 (.if_icmp .ne 8) 3 := dk
theorem q9_6 : dc kc9 6 (.aload_n 0) 1 := dk
theorem q9_7 : dc kc9 7 (.invokevirtual 129) 3 := dk
theorem q9_10 : dc kc9 10 (.astore_n 2) 1 := dk
theorem q9_11 : dc kc9 11 (.aload_n 2) 1 := dk
theorem q9_12 : dc kc9 12 (.iload_n 3) 1 := dk
theorem q9_13 : dc kc9 13 (.aload_n 1) 1 := dk
theorem q9_14 : dc kc9 14 .aastore 1 := dk
theorem q9_15 : dc kc9 15 (.aload_n 0) 1 := dk
theorem q9_16 : dc kc9 16 (.iload_n 3) 1 := dk
theorem q9_17 : dc kc9 17 (.iconst 1) 1 := dk
theorem q9_18 : dc kc9 18 .iadd 1 := dk
theorem q9_19 : dc kc9 19 (.putfield 48) 3 := dk
theorem q9_22 : dc kc9 22 .return_ 1 := dk
theorem q17_0 : dc kc17 0 (.aload_n 0) 1 := dk
theorem q17_1 : dc kc17 1 .dup 1 := dk
theorem q17_2 : dc kc17 2 (.getfield 63) 3 := dk
theorem q17_5 : dc kc17 5 (.iconst 1) 1 := dk
theorem q17_6 : dc kc17 6 .iadd 1 := dk
theorem q17_7 : dc kc17 7 (.putfield 63) 3 := dk
theorem q17_10 : dc kc17 10 (.aload_n 0) 1 := dk
theorem q17_11 : dc kc17 11 (.aload_n 1) 1 := dk
theorem q17_12 : dc kc17 12 (.aload_n 0) 1 := dk
theorem q17_13 : dc kc17 13 (.getfield 9) 3 := dk
theorem q17_16 : dc kc17 16 (.aload_n 0) 1 := dk
theorem q17_17 : dc kc17 17 (.getfield 48) 3 := dk
theorem q17_20 : dc kc17 20 (.invokevirtual 131) 3 := dk
theorem q17_23 : dc kc17 23 (.iconst 1) 1 := dk
theorem q17_24 : dc kc17 24 .ireturn 1 := dk
theorem q4_0 : dc kc4 0 (.iload_n 1) 1 := dk
theorem q4_1 : dc kc4 1 (.aload_n 0) 1 := dk
theorem q4_2 : dc kc4 2 (.getfield 48) 3 := dk
theorem q4_5 : dc kc4 5 (.invokestatic 118) 3 := dk
theorem q4_8 : dc kc4 8 .pop 1 := dk
theorem q4_9 : dc kc4 9 (.aload_n 0) 1 := dk
theorem q4_10 : dc kc4 10 (.getfield 9) 3 := dk
theorem q4_13 : dc kc4 13 (.astore_n 2) 1 := dk
theorem q4_14 : dc kc4 14 (.aload_n 2) 1 := dk
theorem q4_15 : dc kc4 15 (.iload_n 1) 1 := dk
theorem q4_16 : dc kc4 16 .aaload 1 := dk
theorem q4_17 : dc kc4 17 (.astore_n 3) 1 := dk
theorem q4_18 : dc kc4 18 (.aload_n 0) 1 := dk
theorem q4_19 : dc kc4 19 (.aload_n 2) 1 := dk
theorem q4_20 : dc kc4 20 (.iload_n 1) 1 := dk
theorem q4_21 : dc kc4 21 (.invokevirtual 144) 3 := dk
theorem q4_24 : dc kc4 24 (.aload_n 3) 1 := dk
theorem q4_25 : dc kc4 25 .areturn 1 := dk
theorem q36_0 : dc kc36 0 (.aload_n 0) 1 := dk
theorem q36_1 : dc kc36 1 (.invokespecial 1) 3 := dk
theorem q36_4 : dc kc36 4 (.aload_n 0) 1 := dk
theorem q36_5 : dc kc36 5 (.getstatic 39) 3 := dk
theorem q36_8 : dc kc36 8 (.putfield 9) 3 := dk
theorem q36_11 : dc kc36 11 .return_ 1 := dk
theorem q25_0 : dc kc25 0 (.aload_n 0) 1 := dk
theorem q25_1 : dc kc25 1 .dup 1 := dk
theorem q25_2 : dc kc25 2 (.getfield 63) 3 := dk
theorem q25_5 : dc kc25 5 (.iconst 1) 1 := dk
theorem q25_6 : dc kc25 6 .iadd 1 := dk
theorem q25_7 : dc kc25 7 (.putfield 63) 3 := dk
theorem q25_10 : dc kc25 10 (.aload_n 0) 1 := dk
theorem q25_11 : dc kc25 11 (.getfield 48) 3 := dk
theorem q25_14 : dc kc25 14 (.iconst 1) 1 := dk
theorem q25_15 : dc kc25 15 .isub 1 := dk
theorem q25_16 : dc kc25 16 .dup 1 := dk
theorem q25_17 : dc kc25 17 (.istore_n 3) 1 := dk
theorem q25_18 : dc kc25 18 (.iload_n 2) 1 := dk
theorem q25_19 : dc kc25 19 (.if_icmp .le 15) 3 := dk
theorem q25_34 : dc kc25 34 (.aload_n 1) 1 := dk
theorem q25_35 : dc kc25 35 (.aload_n 0) 1 := dk
theorem q25_36 : dc kc25 36 (.iload_n 3) 1 := dk
theorem q25_37 : dc kc25 37 .dup_x1 1 := dk
theorem q25_38 : dc kc25 38 (.putfield 48) 3 := dk
theorem q25_41 : dc kc25 41 .aconst_null 1 := dk
theorem q25_42 : dc kc25 42 .aastore 1 := dk
theorem q25_43 : dc kc25 43 .return_ 1 := dk
theorem q38_0 : dc kc38 0 (.aload_n 0) 1 := dk
theorem q38_1 : dc kc38 1 (.getfield 9) 3 := dk
theorem q38_4 : dc kc38 4 .arraylength 1 := dk
theorem q38_5 : dc kc38 5 (.istore_n 2) 1 := dk
theorem q38_6 : dc kc38 6 (.iload_n 2) 1 := dk
theorem q38_7 : dc kc38 7 (.ifCond .gt 13) 3 := dk
theorem q38_10 : dc kc38 10 (.aload_n 0) 1 := dk
theorem q38_11 : dc kc38 11 (.getfield 9) 3 := dk
theorem q38_14 : dc kc38 14 (.getstatic 39) 3 := dk
theorem q38_17 : dc kc38 17 (.if_acmp .eq 28) 3 := dk
theorem q38_45 : dc kc38 45 (.aload_n 0) 1 := dk
theorem q38_46 : dc kc38 46 (.bipush 10) 2 := dk
theorem q38_48 : dc kc38 48 (.iload_n 1) 1 := dk
theorem q38_49 : dc kc38 49 (.invokestatic 79) 3 := dk
theorem q38_52 : dc kc38 52 (.anewarray 7) 3 := dk
theorem q38_55 : dc kc38 55 .dup_x1 1 := dk
theorem q38_56 : dc kc38 56 (.putfield 9) 3 := dk
theorem q38_59 : dc kc38 59 .areturn 1 := dk
theorem q40_0 : dc kc40 0 (.aload_n 0) 1 := dk
theorem q40_1 : dc kc40 1 (.aload_n 0) 1 := dk
theorem q40_2 : dc kc40 2 (.getfield 48) 3 := dk
theorem q40_5 : dc kc40 5 (.iconst 1) 1 := dk
theorem q40_6 : dc kc40 6 .iadd 1 := dk
theorem q40_7 : dc kc40 7 (.invokevirtual 69) 3 := dk
theorem q40_10 : dc kc40 10 .areturn 1 := dk
theorem q39_0 : dc kc39 0 (.aload_n 0) 1 := dk
theorem q39_1 : dc kc39 1 (.getfield 48) 3 := dk
theorem q39_4 : dc kc39 4 .ireturn 1 := dk
theorem q35_0 : dc kc35 0 (.aload_n 0) 1 := dk
theorem q35_1 : dc kc35 1 (.getfield 48) 3 := dk
theorem q35_4 : dc kc35 4 (.ifCond .ne 7) 3 := dk
theorem q35_7 : dc kc35 7 (.iconst 1) 1 := dk
theorem q35_8 : dc kc35 8 (.goto 4) 3 := dk
theorem q35_11 : dc kc35 11 (.iconst 0) 1 := dk
theorem q35_12 : dc kc35 12 .ireturn 1 := dk
theorem q41_0 : dc kc41 0 (.aload_n 0) 1 := dk
theorem q41_1 : dc kc41 1 (.invokespecial 1) 3 := dk
theorem q41_4 : dc kc41 4 (.aload_n 0) 1 := dk
theorem q41_5 : dc kc41 5 (.iconst 0) 1 := dk
theorem q41_6 : dc kc41 6 (.putfield 7) 3 := dk
theorem q41_9 : dc kc41 9 .return_ 1 := dk
theorem q20_0 : dc kc20 0 (.iload_n 0) 1 := dk
theorem q20_1 : dc kc20 1 (.ifCond .lt 8) 3 := dk
theorem q20_4 : dc kc20 4 (.iload_n 0) 1 := dk
theorem q20_5 : dc kc20 5 (.iload_n 1) 1 := dk
theorem q20_6 : dc kc20 6 (.if_icmp .lt 10) 3 := dk
theorem q20_16 : dc kc20 16 (.iload_n 0) 1 := dk
theorem q20_17 : dc kc20 17 .ireturn 1 := dk
theorem q42_0 : dc kc42 0 (.iload_n 0) 1 := dk
theorem q42_1 : dc kc42 1 (.iload_n 3) 1 := dk
theorem q42_2 : dc kc42 2 (.if_icmp .gt 28) 3 := dk
theorem q42_5 : dc kc42 5 (.lload_n 1) 1 := dk
theorem q42_6 : dc kc42 6 (.lload 4) 2 := dk
theorem q42_8 : dc kc42 8 .lcmp 1 := dk
theorem q42_9 : dc kc42 9 (.ifCond .gt 21) 3 := dk
theorem q42_12 : dc kc42 12 (.lload_n 1) 1 := dk
theorem q42_13 : dc kc42 13 (.ldc2_w 54) 3 := dk
theorem q42_16 : dc kc42 16 (.iload_n 0) 1 := dk
theorem q42_17 : dc kc42 17 .i2l 1 := dk
theorem q42_18 : dc kc42 18 .lmul 1 := dk
theorem q42_19 : dc kc42 19 .ladd 1 := dk
theorem q42_20 : dc kc42 20 (.lload 6) 2 := dk
theorem q42_22 : dc kc42 22 .lcmp 1 := dk
theorem q42_23 : dc kc42 23 (.ifCond .gt 7) 3 := dk
theorem q42_26 : dc kc42 26 (.iconst 1) 1 := dk
theorem q42_27 : dc kc42 27 (.goto 4) 3 := dk
theorem q42_30 : dc kc42 30 (.iconst 0) 1 := dk
theorem q42_31 : dc kc42 31 .ireturn 1 := dk
theorem q43_0 : dc kc43 0 (.iconst 0) 1 := dk
theorem q43_1 : dc kc43 1 (.istore 7) 2 := dk
theorem q43_3 : dc kc43 3 (.iload_n 0) 1 := dk
theorem q43_4 : dc kc43 4 (.iconst 1) 1 := dk
theorem q43_5 : dc kc43 5 (.if_icmp .lt 84) 3 := dk
theorem q43_8 : dc kc43 8 (.iconst 1) 1 := dk
theorem q43_9 : dc kc43 9 (.aload_n 1) 1 := dk
theorem q43_10 : dc kc43 10 (.iload_n 0) 1 := dk
theorem q43_11 : dc kc43 11 .iaload 1 := dk
theorem q43_12 : dc kc43 12 .i2l 1 := dk
theorem q43_13 : dc kc43 13 (.iload_n 2) 1 := dk
theorem q43_14 : dc kc43 14 (.lload_n 3) 1 := dk
theorem q43_15 : dc kc43 15 (.lload 5) 2 := dk
theorem q43_17 : dc kc43 17 (.invokestatic 56) 3 := dk
theorem q43_20 : dc kc43 20 (.ifCond .eq 69) 3 := dk
theorem q43_23 : dc kc43 23 (.iconst 1) 1 := dk
theorem q43_24 : dc kc43 24 (.istore 7) 2 := dk
theorem q43_26 : dc kc43 26 (.iload_n 0) 1 := dk
theorem q43_27 : dc kc43 27 (.iconst 2) 1 := dk
theorem q43_28 : dc kc43 28 (.if_icmp .lt 61) 3 := dk
theorem q43_31 : dc kc43 31 (.iconst 2) 1 := dk
theorem q43_32 : dc kc43 32 (.aload_n 1) 1 := dk
theorem q43_33 : dc kc43 33 (.iload_n 0) 1 := dk
theorem q43_34 : dc kc43 34 .iaload 1 := dk
theorem q43_35 : dc kc43 35 .i2l 1 := dk
theorem q43_36 : dc kc43 36 (.aload_n 1) 1 := dk
theorem q43_37 : dc kc43 37 (.iload_n 0) 1 := dk
theorem q43_38 : dc kc43 38 (.iconst 1) 1 := dk
theorem q43_39 : dc kc43 39 .isub 1 := dk
theorem q43_40 : dc kc43 40 .iaload 1 := dk
theorem q43_41 : dc kc43 41 .i2l 1 := dk
theorem q43_42 : dc kc43 42 .ladd 1 := dk
theorem q43_43 : dc kc43 43 (.iload_n 2) 1 := dk
theorem q43_44 : dc kc43 44 (.lload_n 3) 1 := dk
theorem q43_45 : dc kc43 45 (.lload 5) 2 := dk
theorem q43_47 : dc kc43 47 (.invokestatic 56) 3 := dk
theorem q43_50 : dc kc43 50 (.ifCond .eq 39) 3 := dk
theorem q43_53 : dc kc43 53 (.iconst 2) 1 := dk
theorem q43_54 : dc kc43 54 (.istore 7) 2 := dk
theorem q43_56 : dc kc43 56 (.iload_n 0) 1 := dk
theorem q43_57 : dc kc43 57 (.iconst 3) 1 := dk
theorem q43_58 : dc kc43 58 (.if_icmp .lt 31) 3 := dk
theorem q43_61 : dc kc43 61 (.iconst 3) 1 := dk
theorem q43_62 : dc kc43 62 (.aload_n 1) 1 := dk
theorem q43_63 : dc kc43 63 (.iconst 1) 1 := dk
theorem q43_64 : dc kc43 64 .iaload 1 := dk
theorem q43_65 : dc kc43 65 .i2l 1 := dk
theorem q43_66 : dc kc43 66 (.aload_n 1) 1 := dk
theorem q43_67 : dc kc43 67 (.iconst 2) 1 := dk
theorem q43_68 : dc kc43 68 .iaload 1 := dk
theorem q43_69 : dc kc43 69 .i2l 1 := dk
theorem q43_70 : dc kc43 70 .ladd 1 := dk
theorem q43_71 : dc kc43 71 (.aload_n 1) 1 := dk
theorem q43_72 : dc kc43 72 (.iconst 3) 1 := dk
theorem q43_73 : dc kc43 73 .iaload 1 := dk
theorem q43_74 : dc kc43 74 .i2l 1 := dk
theorem q43_75 : dc kc43 75 .ladd 1 := dk
theorem q43_76 : dc kc43 76 (.iload_n 2) 1 := dk
theorem q43_77 : dc kc43 77 (.lload_n 3) 1 := dk
theorem q43_78 : dc kc43 78 (.lload 5) 2 := dk
theorem q43_80 : dc kc43 80 (.invokestatic 56) 3 := dk
theorem q43_83 : dc kc43 83 (.ifCond .eq 6) 3 := dk
theorem q43_86 : dc kc43 86 (.iconst 3) 1 := dk
theorem q43_87 : dc kc43 87 (.istore 7) 2 := dk
theorem q43_89 : dc kc43 89 (.iload 7) 2 := dk
theorem q43_91 : dc kc43 91 .ireturn 1 := dk
theorem q22_0 : dc kc22 0 (.aload_n 0) 1 := dk
theorem q22_1 : dc kc22 1 (.invokespecial 1) 3 := dk
theorem q22_4 : dc kc22 4 (.aload_n 0) 1 := dk
theorem q22_5 : dc kc22 5 (.lload_n 1) 1 := dk
theorem q22_6 : dc kc22 6 (.putfield 7) 3 := dk
theorem q22_9 : dc kc22 9 (.aload_n 0) 1 := dk
theorem q22_10 : dc kc22 10 (.lload_n 3) 1 := dk
theorem q22_11 : dc kc22 11 (.putfield 13) 3 := dk
theorem q22_14 : dc kc22 14 (.aload_n 0) 1 := dk
theorem q22_15 : dc kc22 15 (.aload 5) 2 := dk
theorem q22_17 : dc kc22 17 (.putfield 16) 3 := dk
theorem q22_20 : dc kc22 20 .return_ 1 := dk
theorem q31_0 : dc kc31 0 (.aload_n 0) 1 := dk
theorem q31_1 : dc kc31 1 (.getfield 7) 3 := dk
theorem q31_4 : dc kc31 4 .lreturn 1 := dk
theorem q10_0 : dc kc10 0 (.aload_n 0) 1 := dk
theorem q10_1 : dc kc10 1 (.getfield 16) 3 := dk
theorem q10_4 : dc kc10 4 .areturn 1 := dk
theorem q2_0 : dc kc2 0 (.aload_n 1) 1 := dk
theorem q2_1 : dc kc2 1 (.getfield 53) 3 := dk
theorem q2_4 : dc kc2 4 (.lconst 0) 1 := dk
theorem q2_5 : dc kc2 5 .lcmp 1 := dk
theorem q2_6 : dc kc2 6 (.ifCond .le 42) 3 := dk
theorem q2_9 : dc kc2 9 (.aload_n 1) 1 := dk
theorem q2_10 : dc kc2 10 (.getfield 89) 3 := dk
theorem q2_13 : dc kc2 13 (.ifCond .ge 35) 3 := dk
theorem q2_16 : dc kc2 16 (.aload_n 1) 1 := dk
theorem q2_17 : dc kc2 17 (.aload_n 0) 1 := dk
theorem q2_18 : dc kc2 18 (.getfield 21) 3 := dk
theorem q2_21 : dc kc2 21 (.invokeinterface 81 1) 5 := dk
theorem q2_26 : dc kc2 26 (.putfield 89) 3 := dk
theorem q2_29 : dc kc2 29 (.aload_n 0) 1 := dk
theorem q2_30 : dc kc2 30 (.getfield 21) 3 := dk
theorem q2_33 : dc kc2 33 (.aload_n 1) 1 := dk
theorem q2_34 : dc kc2 34 (.invokeinterface 93 2) 5 := dk
theorem q2_39 : dc kc2 39 .pop 1 := dk
theorem q2_40 : dc kc2 40 (.aload_n 0) 1 := dk
theorem q2_41 : dc kc2 41 (.aload_n 1) 1 := dk
theorem q2_42 : dc kc2 42 (.invokevirtual 97) 3 := dk
theorem q2_45 : dc kc2 45 (.goto 85) 3 := dk
theorem q2_48 : dc kc2 48 (.aload_n 1) 1 := dk
theorem q2_49 : dc kc2 49 (.getfield 53) 3 := dk
theorem q2_52 : dc kc2 52 (.lconst 0) 1 := dk
theorem q2_53 : dc kc2 53 .lcmp 1 := dk
theorem q2_54 : dc kc2 54 (.ifCond .le 16) 3 := dk
theorem q2_57 : dc kc2 57 (.aload_n 0) 1 := dk
theorem q2_58 : dc kc2 58 (.aload_n 1) 1 := dk
theorem q2_59 : dc kc2 59 (.invokevirtual 97) 3 := dk
theorem q2_62 : dc kc2 62 (.aload_n 0) 1 := dk
theorem q2_63 : dc kc2 63 (.aload_n 1) 1 := dk
theorem q2_64 : dc kc2 64 (.invokevirtual 100) 3 := dk
theorem q2_67 : dc kc2 67 (.goto 63) 3 := dk
theorem q2_70 : dc kc2 70 (.aload_n 1) 1 := dk
theorem q2_71 : dc kc2 71 (.getfield 89) 3 := dk
theorem q2_74 : dc kc2 74 (.ifCond .lt 56) 3 := dk
theorem q2_77 : dc kc2 77 (.aload_n 0) 1 := dk
theorem q2_78 : dc kc2 78 (.getfield 21) 3 := dk
theorem q2_81 : dc kc2 81 (.aload_n 0) 1 := dk
theorem q2_82 : dc kc2 82 (.getfield 21) 3 := dk
theorem q2_85 : dc kc2 85 (.invokeinterface 81 1) 5 := dk
theorem q2_90 : dc kc2 90 (.iconst 1) 1 := dk
theorem q2_91 : dc kc2 91 .isub 1 := dk
theorem q2_92 : dc kc2 92 (.invokeinterface 103 2) 5 := dk
theorem q2_97 : dc kc2 97 (.checkcast 35) 3 := dk
theorem q2_100 : dc kc2 100 (.astore_n 2) 1 := dk
theorem q2_101 : dc kc2 101 (.aload_n 2) 1 := dk
theorem q2_102 : dc kc2 102 (.aload_n 1) 1 := dk
theorem q2_103 : dc kc2 103 (.if_acmp .eq 22) 3 := dk
theorem q2_125 : dc kc2 125 (.aload_n 1) 1 := dk
theorem q2_126 : dc kc2 126 (.iconst (-1)) 1 := dk
theorem q2_127 : dc kc2 127 (.putfield 89) 3 := dk
theorem q2_130 : dc kc2 130 .return_ 1 := dk
theorem q3_0 : dc kc3 0 (.aload_n 1) 1 := dk
theorem q3_1 : dc kc3 1 (.getfield 89) 3 := dk
theorem q3_4 : dc kc3 4 (.istore_n 2) 1 := dk
theorem q3_5 : dc kc3 5 (.iload_n 2) 1 := dk
theorem q3_6 : dc kc3 6 (.iconst 1) 1 := dk
theorem q3_7 : dc kc3 7 .isub 1 := dk
theorem q3_8 : dc kc3 8 (.iconst 2) 1 := dk
theorem q3_9 : dc kc3 9 .idiv 1 := dk
theorem q3_10 : dc kc3 10 (.istore_n 3) 1 := dk
theorem q3_11 : dc kc3 11 (.iload_n 2) 1 := dk
theorem q3_12 : dc kc3 12 (.ifCond .le 53) 3 := dk
theorem q3_65 : dc kc3 65 (.aload_n 0) 1 := dk
theorem q3_66 : dc kc3 66 (.aload_n 1) 1 := dk
theorem q3_67 : dc kc3 67 (.iload_n 2) 1 := dk
theorem q3_68 : dc kc3 68 (.invokevirtual 106) 3 := dk
theorem q3_71 : dc kc3 71 .return_ 1 := dk
theorem q0_0 : dc kc0 0 (.aload_n 1) 1 := dk
theorem q0_1 : dc kc0 1 (.getfield 89) 3 := dk
theorem q0_4 : dc kc0 4 (.istore_n 2) 1 := dk
theorem q0_5 : dc kc0 5 (.iconst 2) 1 := dk
theorem q0_6 : dc kc0 6 (.iload_n 2) 1 := dk
theorem q0_7 : dc kc0 7 .imul 1 := dk
theorem q0_8 : dc kc0 8 (.iconst 1) 1 := dk
theorem q0_9 : dc kc0 9 .iadd 1 := dk
theorem q0_10 : dc kc0 10 (.istore_n 3) 1 := dk
theorem q0_11 : dc kc0 11 (.iload_n 3) 1 := dk
theorem q0_12 : dc kc0 12 (.aload_n 0) 1 := dk
theorem q0_13 : dc kc0 13 (.getfield 21) 3 := dk
theorem q0_16 : dc kc0 16 (.invokeinterface 81 1) 5 := dk
theorem q0_21 : dc kc0 21 (.if_icmp .ge 109) 3 := dk
theorem q0_130 : dc kc0 130 (.aload_n 0) 1 := dk
theorem q0_131 : dc kc0 131 (.aload_n 1) 1 := dk
theorem q0_132 : dc kc0 132 (.iload_n 2) 1 := dk
theorem q0_133 : dc kc0 133 (.invokevirtual 106) 3 := dk
theorem q0_136 : dc kc0 136 .return_ 1 := dk
theorem q1_0 : dc kc1 0 (.aload_n 0) 1 := dk
theorem q1_1 : dc kc1 1 (.getfield 21) 3 := dk
theorem q1_4 : dc kc1 4 (.iload_n 2) 1 := dk
theorem q1_5 : dc kc1 5 (.aload_n 1) 1 := dk
theorem q1_6 : dc kc1 6 (.invokeinterface 110 3) 5 := dk
theorem q1_11 : dc kc1 11 .pop 1 := dk
theorem q1_12 : dc kc1 12 (.aload_n 1) 1 := dk
theorem q1_13 : dc kc1 13 (.iload_n 2) 1 := dk
theorem q1_14 : dc kc1 14 (.putfield 89) 3 := dk
theorem q1_17 : dc kc1 17 .return_ 1 := dk
theorem q8_0 : dc kc8 0 (.aload_n 0) 1 := dk
theorem q8_1 : dc kc8 1 (.lload_n 1) 1 := dk
theorem q8_2 : dc kc8 2 (.getstatic 1) 3 := dk
theorem q8_5 : dc kc8 5 (.invokespecial 7) 3 := dk
theorem q8_8 : dc kc8 8 .return_ 1 := dk
theorem q18_0 : dc kc18 0 (.aload_n 0) 1 := dk
theorem q18_1 : dc kc18 1 (.invokespecial 13) 3 := dk
theorem q18_4 : dc kc18 4 (.aload_n 0) 1 := dk
theorem q18_5 : dc kc18 5 (.new 18) 3 := dk
theorem q18_8 : dc kc18 8 .dup 1 := dk
theorem q18_9 : dc kc18 9 (.invokespecial 20) 3 := dk
theorem q18_12 : dc kc18 12 (.putfield 21) 3 := dk
theorem q18_15 : dc kc18 15 (.aload_n 0) 1 := dk
theorem q18_16 : dc kc18 16 (.lload_n 1) 1 := dk
theorem q18_17 : dc kc18 17 (.putfield 25) 3 := dk
theorem q18_20 : dc kc18 20 (.aload_n 0) 1 := dk
theorem q18_21 : dc kc18 21 (.aload_n 3) 1 := dk
theorem q18_22 : dc kc18 22 (.putfield 29) 3 := dk
theorem q18_25 : dc kc18 25 .return_ 1 := dk
theorem q7_0 : dc kc7 0 (.new 35) 3 := dk
theorem q7_3 : dc kc7 3 .dup 1 := dk
theorem q7_4 : dc kc7 4 (.aload_n 0) 1 := dk
theorem q7_5 : dc kc7 5 (.aload_n 1) 1 := dk
theorem q7_6 : dc kc7 6 (.invokespecial 37) 3 := dk
theorem q7_9 : dc kc7 9 .areturn 1 := dk
theorem q23_0 : dc kc23 0 (.aload_n 0) 1 := dk
theorem q23_1 : dc kc23 1 (.aload_n 1) 1 := dk
theorem q23_2 : dc kc23 2 (.lload_n 2) 1 := dk
theorem q23_3 : dc kc23 3 (.lload 4) 2 := dk
theorem q23_5 : dc kc23 5 (.invokevirtual 40) 3 := dk
theorem q23_8 : dc kc23 8 (.astore 6) 2 := dk
theorem q23_10 : dc kc23 10 (.aload 6) 2 := dk
theorem q23_12 : dc kc23 12 (.ifnull 26) 3 := dk
theorem q23_38 : dc kc23 38 (.aload_n 0) 1 := dk
theorem q23_39 : dc kc23 39 (.getfield 32) 3 := dk
theorem q23_42 : dc kc23 42 (.lload_n 2) 1 := dk
theorem q23_43 : dc kc23 43 .ladd 1 := dk
theorem q23_44 : dc kc23 44 (.aload_n 0) 1 := dk
theorem q23_45 : dc kc23 45 (.getfield 25) 3 := dk
theorem q23_48 : dc kc23 48 .lcmp 1 := dk
theorem q23_49 : dc kc23 49 (.ifCond .gt 7) 3 := dk
theorem q23_52 : dc kc23 52 (.iconst 1) 1 := dk
theorem q23_53 : dc kc23 53 (.goto 4) 3 := dk
theorem q23_56 : dc kc23 56 (.iconst 0) 1 := dk
theorem q23_57 : dc kc23 57 (.istore 7) 2 := dk
theorem q23_59 : dc kc23 59 (.iload 7) 2 := dk
theorem q23_61 : dc kc23 61 (.ifCond .eq 43) 3 := dk
theorem q23_64 : dc kc23 64 (.aload_n 0) 1 := dk
theorem q23_65 : dc kc23 65 .dup 1 := dk
theorem q23_66 : dc kc23 66 (.getfield 32) 3 := dk
theorem q23_69 : dc kc23 69 (.lload_n 2) 1 := dk
theorem q23_70 : dc kc23 70 .ladd 1 := dk
theorem q23_71 : dc kc23 71 (.putfield 32) 3 := dk
theorem q23_74 : dc kc23 74 (.aload_n 1) 1 := dk
theorem q23_75 : dc kc23 75 .dup 1 := dk
theorem q23_76 : dc kc23 76 (.getfield 53) 3 := dk
theorem q23_79 : dc kc23 79 (.lload_n 2) 1 := dk
theorem q23_80 : dc kc23 80 .ladd 1 := dk
theorem q23_81 : dc kc23 81 (.putfield 53) 3 := dk
theorem q23_84 : dc kc23 84 (.aload_n 1) 1 := dk
theorem q23_85 : dc kc23 85 (.aload_n 0) 1 := dk
theorem q23_86 : dc kc23 86 .dup 1 := dk
theorem q23_87 : dc kc23 87 (.getfield 54) 3 := dk
theorem q23_90 : dc kc23 90 (.lconst 1) 1 := dk
theorem q23_91 : dc kc23 91 .ladd 1 := dk
theorem q23_92 : dc kc23 92 .dup2_x1 1 := dk
theorem q23_93 : dc kc23 93 (.putfield 54) 3 := dk
theorem q23_96 : dc kc23 96 (.putfield 57) 3 := dk
theorem q23_99 : dc kc23 99 (.aload_n 0) 1 := dk
theorem q23_100 : dc kc23 100 (.aload_n 1) 1 := dk
theorem q23_101 : dc kc23 101 (.invokevirtual 60) 3 := dk
theorem q23_104 : dc kc23 104 (.iload 7) 2 := dk
theorem q23_106 : dc kc23 106 .ireturn 1 := dk
theorem q21_0 : dc kc21 0 (.aload_n 0) 1 := dk
theorem q21_1 : dc kc21 1 (.getfield 32) 3 := dk
theorem q21_4 : dc kc21 4 (.lload_n 2) 1 := dk
theorem q21_5 : dc kc21 5 .ladd 1 := dk
theorem q21_6 : dc kc21 6 (.aload_n 0) 1 := dk
theorem q21_7 : dc kc21 7 (.getfield 25) 3 := dk
theorem q21_10 : dc kc21 10 .lcmp 1 := dk
theorem q21_11 : dc kc21 11 (.ifCond .le 12) 3 := dk
theorem q21_14 : dc kc21 14 (.lload_n 2) 1 := dk
theorem q21_15 : dc kc21 15 (.aload_n 0) 1 := dk
theorem q21_16 : dc kc21 16 (.getfield 25) 3 := dk
theorem q21_19 : dc kc21 19 .lcmp 1 := dk
theorem q21_20 : dc kc21 20 (.ifCond .le 5) 3 := dk
theorem q21_23 : dc kc21 23 .aconst_null 1 := dk
theorem q21_24 : dc kc21 24 .areturn 1 := dk
theorem q21_25 : dc kc21 25 (.aload_n 0) 1 := dk
theorem q21_26 : dc kc21 26 (.aload_n 1) 1 := dk
theorem q21_27 : dc kc21 27 (.invokevirtual 64) 3 := dk
theorem q21_30 : dc kc21 30 (.astore 6) 2 := dk
theorem q21_32 : dc kc21 32 (.aload 6) 2 := dk
theorem q21_34 : dc kc21 34 (.ifnonnull 9) 3 := dk
theorem q21_37 : dc kc21 37 (.iconst 0) 1 := dk
theorem q21_38 : dc kc21 38 (.istore 7) 2 := dk
theorem q21_40 : dc kc21 40 (.goto 55) 3 := dk
theorem q21_95 : dc kc21 95 (.iload 7) 2 := dk
theorem q21_97 : dc kc21 97 (.ifCond .eq 8) 3 := dk
theorem q21_105 : dc kc21 105 .aconst_null 1 := dk
theorem q21_106 : dc kc21 106 .areturn 1 := dk
theorem q5_0 : dc kc5 0 (.aload_n 0) 1 := dk
theorem q5_1 : dc kc5 1 .dup 1 := dk
theorem q5_2 : dc kc5 2 (.getfield 32) 3 := dk
theorem q5_5 : dc kc5 5 (.lload_n 2) 1 := dk
theorem q5_6 : dc kc5 6 .lsub 1 := dk
theorem q5_7 : dc kc5 7 (.putfield 32) 3 := dk
theorem q5_10 : dc kc5 10 (.aload_n 1) 1 := dk
theorem q5_11 : dc kc5 11 .dup 1 := dk
theorem q5_12 : dc kc5 12 (.getfield 53) 3 := dk
theorem q5_15 : dc kc5 15 (.lload_n 2) 1 := dk
theorem q5_16 : dc kc5 16 .lsub 1 := dk
theorem q5_17 : dc kc5 17 (.putfield 53) 3 := dk
theorem q5_20 : dc kc5 20 (.aload_n 0) 1 := dk
theorem q5_21 : dc kc5 21 (.aload_n 1) 1 := dk
theorem q5_22 : dc kc5 22 (.invokevirtual 60) 3 := dk
theorem q5_25 : dc kc5 25 .return_ 1 := dk
theorem q24_0 : dc kc24 0 (.aload_n 0) 1 := dk
theorem q24_1 : dc kc24 1 (.getfield 21) 3 := dk
theorem q24_4 : dc kc24 4 (.invokeinterface 71 1) 5 := dk
theorem q24_9 : dc kc24 9 (.ifCond .eq 7) 3 := dk
theorem q24_12 : dc kc24 12 .aconst_null 1 := dk
theorem q24_13 : dc kc24 13 (.goto 16) 3 := dk
theorem q24_16 : dc kc24 16 (.aload_n 0) 1 := dk
theorem q24_17 : dc kc24 17 (.getfield 21) 3 := dk
theorem q24_20 : dc kc24 20 (.iconst 0) 1 := dk
theorem q24_21 : dc kc24 21 (.invokeinterface 77 2) 5 := dk
theorem q24_26 : dc kc24 26 (.checkcast 35) 3 := dk
theorem q24_29 : dc kc24 29 (.astore_n 2) 1 := dk
theorem q24_30 : dc kc24 30 (.aload_n 2) 1 := dk
theorem q24_31 : dc kc24 31 (.aload_n 1) 1 := dk
theorem q24_32 : dc kc24 32 (.if_acmp .ne 88) 3 := dk
theorem q24_35 : dc kc24 35 (.aload_n 0) 1 := dk
theorem q24_36 : dc kc24 36 (.getfield 21) 3 := dk
theorem q24_39 : dc kc24 39 (.invokeinterface 81 1) 5 := dk
theorem q24_44 : dc kc24 44 (.iconst 1) 1 := dk
theorem q24_45 : dc kc24 45 (.if_icmp .le 19) 3 := dk
theorem q24_64 : dc kc24 64 .aconst_null 1 := dk
theorem q24_65 : dc kc24 65 (.astore_n 3) 1 := dk
theorem q24_66 : dc kc24 66 (.aload_n 0) 1 := dk
theorem q24_67 : dc kc24 67 (.getfield 21) 3 := dk
theorem q24_70 : dc kc24 70 (.invokeinterface 81 1) 5 := dk
theorem q24_75 : dc kc24 75 (.iconst 2) 1 := dk
theorem q24_76 : dc kc24 76 (.if_icmp .le 19) 3 := dk
theorem q24_95 : dc kc24 95 .aconst_null 1 := dk
theorem q24_96 : dc kc24 96 (.astore 4) 2 := dk
theorem q24_98 : dc kc24 98 (.aload 4) 2 := dk
theorem q24_100 : dc kc24 100 (.ifnull 18) 3 := dk
theorem q24_118 : dc kc24 118 (.aload_n 3) 1 := dk
theorem q24_119 : dc kc24 119 (.astore_n 2) 1 := dk
theorem q24_120 : dc kc24 120 (.aload_n 2) 1 := dk
theorem q24_121 : dc kc24 121 .areturn 1 := dk
theorem q6_0 : dc kc6 0 (.aload_n 0) 1 := dk
theorem q6_1 : dc kc6 1 (.aload_n 1) 1 := dk
theorem q6_2 : dc kc6 2 (.putfield 1) 3 := dk
theorem q6_5 : dc kc6 5 (.aload_n 0) 1 := dk
theorem q6_6 : dc kc6 6 (.invokespecial 7) 3 := dk
theorem q6_9 : dc kc6 9 (.aload_n 0) 1 := dk
theorem q6_10 : dc kc6 10 (.iconst (-1)) 1 := dk
theorem q6_11 : dc kc6 11 (.putfield 13) 3 := dk
theorem q6_14 : dc kc6 14 (.aload_n 0) 1 := dk
theorem q6_15 : dc kc6 15 (.aload_n 2) 1 := dk
theorem q6_16 : dc kc6 16 (.putfield 17) 3 := dk
theorem q6_19 : dc kc6 19 .return_ 1 := dk
theorem q27_0 : dc kc27 0 (.aload_n 0) 1 := dk
theorem q27_1 : dc kc27 1 (.getfield 1) 3 := dk
theorem q27_4 : dc kc27 4 (.aload_n 0) 1 := dk
theorem q27_5 : dc kc27 5 (.lload_n 1) 1 := dk
theorem q27_6 : dc kc27 6 (.aload_n 0) 1 := dk
theorem q27_7 : dc kc27 7 (.getfield 27) 3 := dk
theorem q27_10 : dc kc27 10 (.invokevirtual 21) 3 := dk
theorem q27_13 : dc kc27 13 .ireturn 1 := dk
theorem q19_0 : dc kc19 0 (.aload_n 0) 1 := dk
theorem q19_1 : dc kc19 1 (.getfield 1) 3 := dk
theorem q19_4 : dc kc19 4 (.aload_n 0) 1 := dk
theorem q19_5 : dc kc19 5 (.lload_n 1) 1 := dk
theorem q19_6 : dc kc19 6 (.invokevirtual 35) 3 := dk
theorem q19_9 : dc kc19 9 .return_ 1 := dk
theorem q32_0 : dc kc32 0 (.aload_n 0) 1 := dk
theorem q32_1 : dc kc32 1 (.invokespecial 1) 3 := dk
theorem q32_4 : dc kc32 4 (.aload_n 0) 1 := dk
theorem q32_5 : dc kc32 5 (.iconst 0) 1 := dk
theorem q32_6 : dc kc32 6 (.anewarray 7) 3 := dk
theorem q32_9 : dc kc32 9 (.putfield 9) 3 := dk
theorem q32_12 : dc kc32 12 (.aload_n 0) 1 := dk
theorem q32_13 : dc kc32 13 (.iload_n 1) 1 := dk
theorem q32_14 : dc kc32 14 (.putfield 15) 3 := dk
theorem q32_17 : dc kc32 17 (.aload_n 0) 1 := dk
theorem q32_18 : dc kc32 18 (.lload_n 2) 1 := dk
theorem q32_19 : dc kc32 19 (.putfield 19) 3 := dk
theorem q32_22 : dc kc32 22 (.aload_n 0) 1 := dk
theorem q32_23 : dc kc32 23 (.aload 4) 2 := dk
theorem q32_25 : dc kc32 25 (.aload_n 0) 1 := dk
theorem q32_26 : dc kc32 26 (.invokedynamic 23) 5 := dk
theorem q32_31 : dc kc32 31 (.invokevirtual 27) 3 := dk
theorem q32_34 : dc kc32 34 (.putfield 33) 3 := dk
theorem q32_37 : dc kc32 37 .return_ 1 := dk
theorem q16_0 : dc kc16 0 (.aload_n 1) 1 := dk
theorem q16_1 : dc kc16 1 (.invokevirtual 37) 3 := dk
theorem q16_4 : dc kc16 4 .arraylength 1 := dk
theorem q16_5 : dc kc16 5 (.istore_n 2) 1 := dk
theorem q16_6 : dc kc16 6 (.aload_n 0) 1 := dk
theorem q16_7 : dc kc16 7 (.getfield 41) 3 := dk
theorem q16_10 : dc kc16 10 (.ifCond .le 36) 3 := dk
theorem q16_13 : dc kc16 13 (.aload_n 0) 1 := dk
theorem q16_14 : dc kc16 14 (.getfield 41) 3 := dk
theorem q16_17 : dc kc16 17 (.aload_n 0) 1 := dk
theorem q16_18 : dc kc16 18 (.getfield 15) 3 := dk
theorem q16_21 : dc kc16 21 (.if_icmp .eq 18) 3 := dk
theorem q16_24 : dc kc16 24 (.aload_n 0) 1 := dk
theorem q16_25 : dc kc16 25 (.getfield 44) 3 := dk
theorem q16_28 : dc kc16 28 (.iload_n 2) 1 := dk
theorem q16_29 : dc kc16 29 .i2l 1 := dk
theorem q16_30 : dc kc16 30 .ladd 1 := dk
theorem q16_31 : dc kc16 31 (.aload_n 0) 1 := dk
theorem q16_32 : dc kc16 32 (.getfield 19) 3 := dk
theorem q16_35 : dc kc16 35 .lcmp 1 := dk
theorem q16_36 : dc kc16 36 (.ifCond .le 10) 3 := dk
theorem q16_39 : dc kc16 39 (.aload_n 0) 1 := dk
theorem q16_40 : dc kc16 40 (.invokevirtual 47) 3 := dk
theorem q16_43 : dc kc16 43 (.goto (-37)) 3 := dk
theorem q16_46 : dc kc16 46 (.aload_n 0) 1 := dk
theorem q16_47 : dc kc16 47 (.getfield 41) 3 := dk
theorem q16_50 : dc kc16 50 (.aload_n 0) 1 := dk
theorem q16_51 : dc kc16 51 (.getfield 15) 3 := dk
theorem q16_54 : dc kc16 54 (.if_icmp .ge 17) 3 := dk
theorem q16_57 : dc kc16 57 (.iload_n 2) 1 := dk
theorem q16_58 : dc kc16 58 .i2l 1 := dk
theorem q16_59 : dc kc16 59 (.aload_n 0) 1 := dk
theorem q16_60 : dc kc16 60 (.getfield 19) 3 := dk
theorem q16_63 : dc kc16 63 .lcmp 1 := dk
theorem q16_64 : dc kc16 64 (.ifCond .gt 7) 3 := dk
theorem q16_67 : dc kc16 67 (.iconst 1) 1 := dk
theorem q16_68 : dc kc16 68 (.goto 4) 3 := dk
theorem q16_71 : dc kc16 71 (.iconst 0) 1 := dk
theorem q16_72 : dc kc16 72 (.istore_n 3) 1 := dk
theorem q16_73 : dc kc16 73 (.iload_n 3) 1 := dk
theorem q16_74 : dc kc16 74 (.ifCond .eq 41) 3 := dk
theorem q16_77 : dc kc16 77 (.aload_n 0) 1 := dk
theorem q16_78 : dc kc16 78 (.getfield 33) 3 := dk
theorem q16_81 : dc kc16 81 (.iload_n 2) 1 := dk
theorem q16_82 : dc kc16 82 (.invokestatic 50) 3 := dk
theorem q16_85 : dc kc16 85 (.invokevirtual 54) 3 := dk
theorem q16_88 : dc kc16 88 (.ifCond .ne 27) 3 := dk
theorem q16_91 : dc kc16 91 (.aload_n 0) 1 := dk
theorem q16_92 : dc kc16 92 (.getfield 41) 3 := dk
theorem q16_95 : dc kc16 95 (.ifCond .le 7) 3 := dk
theorem q16_98 : dc kc16 98 (.iconst 1) 1 := dk
theorem q16_99 : dc kc16 99 (.goto 4) 3 := dk
theorem q16_102 : dc kc16 102 (.iconst 0) 1 := dk
theorem q16_103 : dc kc16 103 (.istore_n 3) 1 := dk
theorem q16_104 : dc kc16 104 (.iload_n 3) 1 := dk
theorem q16_105 : dc kc16 105 (.ifCond .eq (-32)) 3 := dk
theorem q16_108 : dc kc16 108 (.aload_n 0) 1 := dk
theorem q16_109 : dc kc16 109 (.invokevirtual 47) 3 := dk
theorem q16_112 : dc kc16 112 (.goto (-39)) 3 := dk
theorem q16_115 : dc kc16 115 (.iload_n 3) 1 := dk
theorem q16_116 : dc kc16 116 (.ifCond .eq 86) 3 := dk
theorem q16_119 : dc kc16 119 (.aload_n 0) 1 := dk
theorem q16_120 : dc kc16 120 (.getfield 41) 3 := dk
theorem q16_123 : dc kc16 123 (.aload_n 0) 1 := dk
theorem q16_124 : dc kc16 124 (.getfield 9) 3 := dk
theorem q16_127 : dc kc16 127 .arraylength 1 := dk
theorem q16_128 : dc kc16 128 (.if_icmp .ne 32) 3 := dk
theorem q16_131 : dc kc16 131 (.aload_n 0) 1 := dk
theorem q16_132 : dc kc16 132 (.aload_n 0) 1 := dk
theorem q16_133 : dc kc16 133 (.getfield 15) 3 := dk
theorem q16_136 : dc kc16 136 .i2l 1 := dk
theorem q16_137 : dc kc16 137 (.ldc2_w 60) 3 := dk
theorem q16_140 : dc kc16 140 (.ldc2_w 62) 3 := dk
theorem q16_143 : dc kc16 143 (.aload_n 0) 1 := dk
theorem q16_144 : dc kc16 144 (.getfield 9) 3 := dk
theorem q16_147 : dc kc16 147 .arraylength 1 := dk
theorem q16_148 : dc kc16 148 .i2l 1 := dk
theorem q16_149 : dc kc16 149 .lmul 1 := dk
theorem q16_150 : dc kc16 150 (.invokestatic 64) 3 := dk
theorem q16_153 : dc kc16 153 (.invokestatic 70) 3 := dk
theorem q16_156 : dc kc16 156 .l2i 1 := dk
theorem q16_157 : dc kc16 157 (.invokevirtual 73) 3 := dk
theorem q16_160 : dc kc16 160 (.aload_n 0) 1 := dk
theorem q16_161 : dc kc16 161 (.getfield 9) 3 := dk
theorem q16_164 : dc kc16 164 (.aload_n 0) 1 := dk
theorem q16_165 : dc kc16 165 (.getfield 77) 3 := dk
theorem q16_168 : dc kc16 168 (.aload_n 0) 1 := dk
theorem q16_169 : dc kc16 169 (.getfield 41) 3 := dk
theorem q16_172 : dc kc16 172 .iadd 1 := dk
theorem q16_173 : dc kc16 173 (.aload_n 0) 1 := dk
theorem q16_174 : dc kc16 174 (.getfield 9) 3 := dk
theorem q16_177 : dc kc16 177 .arraylength 1 := dk
theorem q16_178 : dc kc16 178 .irem 1 := dk
theorem q16_179 : dc kc16 179 (.aload_n 1) 1 := dk
theorem q16_180 : dc kc16 180 .aastore 1 := dk
theorem q16_181 : dc kc16 181 (.aload_n 0) 1 := dk
theorem q16_182 : dc kc16 182 .dup 1 := dk
theorem q16_183 : dc kc16 183 (.getfield 41) 3 := dk
theorem q16_186 : dc kc16 186 (.iconst 1) 1 := dk
theorem q16_187 : dc kc16 187 .iadd 1 := dk
theorem q16_188 : dc kc16 188 (.putfield 41) 3 := dk
theorem q16_191 : dc kc16 191 (.aload_n 0) 1 := dk
theorem q16_192 : dc kc16 192 .dup 1 := dk
theorem q16_193 : dc kc16 193 (.getfield 44) 3 := dk
theorem q16_196 : dc kc16 196 (.iload_n 2) 1 := dk
theorem q16_197 : dc kc16 197 .i2l 1 := dk
theorem q16_198 : dc kc16 198 .ladd 1 := dk
theorem q16_199 : dc kc16 199 (.putfield 44) 3 := dk
theorem q16_202 : dc kc16 202 (.aload_n 0) 1 := dk
theorem q16_203 : dc kc16 203 (.aload_n 1) 1 := dk
theorem q16_204 : dc kc16 204 (.invokevirtual 80) 3 := dk
theorem q16_207 : dc kc16 207 (.putfield 84) 3 := dk
theorem q16_210 : dc kc16 210 .return_ 1 := dk
theorem q13_0 : dc kc13 0 (.lload_n 1) 1 := dk
theorem q13_1 : dc kc13 1 (.aload_n 0) 1 := dk
theorem q13_2 : dc kc13 2 (.getfield 84) 3 := dk
theorem q13_5 : dc kc13 5 (.aload_n 0) 1 := dk
theorem q13_6 : dc kc13 6 (.getfield 41) 3 := dk
theorem q13_9 : dc kc13 9 .i2l 1 := dk
theorem q13_10 : dc kc13 10 .lsub 1 := dk
theorem q13_11 : dc kc13 11 (.lconst 1) 1 := dk
theorem q13_12 : dc kc13 12 .ladd 1 := dk
theorem q13_13 : dc kc13 13 .lsub 1 := dk
theorem q13_14 : dc kc13 14 (.lstore_n 3) 1 := dk
theorem q13_15 : dc kc13 15 (.lload_n 3) 1 := dk
theorem q13_16 : dc kc13 16 (.lconst 0) 1 := dk
theorem q13_17 : dc kc13 17 .lcmp 1 := dk
theorem q13_18 : dc kc13 18 (.ifCond .lt 36) 3 := dk
theorem q13_21 : dc kc13 21 (.lload_n 3) 1 := dk
theorem q13_22 : dc kc13 22 (.aload_n 0) 1 := dk
theorem q13_23 : dc kc13 23 (.getfield 41) 3 := dk
theorem q13_26 : dc kc13 26 .i2l 1 := dk
theorem q13_27 : dc kc13 27 .lcmp 1 := dk
theorem q13_28 : dc kc13 28 (.ifCond .ge 26) 3 := dk
theorem q13_31 : dc kc13 31 (.aload_n 0) 1 := dk
theorem q13_32 : dc kc13 32 (.getfield 9) 3 := dk
theorem q13_35 : dc kc13 35 (.aload_n 0) 1 := dk
theorem q13_36 : dc kc13 36 (.getfield 77) 3 := dk
theorem q13_39 : dc kc13 39 .i2l 1 := dk
theorem q13_40 : dc kc13 40 (.lload_n 3) 1 := dk
theorem q13_41 : dc kc13 41 .ladd 1 := dk
theorem q13_42 : dc kc13 42 (.aload_n 0) 1 := dk
theorem q13_43 : dc kc13 43 (.getfield 9) 3 := dk
theorem q13_46 : dc kc13 46 .arraylength 1 := dk
theorem q13_47 : dc kc13 47 .i2l 1 := dk
theorem q13_48 : dc kc13 48 .lrem 1 := dk
theorem q13_49 : dc kc13 49 .l2i 1 := dk
theorem q13_50 : dc kc13 50 .aaload 1 := dk
theorem q13_51 : dc kc13 51 (.goto 4) 3 := dk
theorem q13_54 : dc kc13 54 .aconst_null 1 := dk
theorem q13_55 : dc kc13 55 .areturn 1 := dk
theorem q28_0 : dc kc28 0 (.aload_n 0) 1 := dk
theorem q28_1 : dc kc28 1 (.getfield 9) 3 := dk
theorem q28_4 : dc kc28 4 (.aload_n 0) 1 := dk
theorem q28_5 : dc kc28 5 (.getfield 77) 3 := dk
theorem q28_8 : dc kc28 8 .aaload 1 := dk
theorem q28_9 : dc kc28 9 (.invokevirtual 37) 3 := dk
theorem q28_12 : dc kc28 12 .arraylength 1 := dk
theorem q28_13 : dc kc28 13 (.istore_n 1) 1 := dk
theorem q28_14 : dc kc28 14 (.aload_n 0) 1 := dk
theorem q28_15 : dc kc28 15 (.getfield 9) 3 := dk
theorem q28_18 : dc kc28 18 (.aload_n 0) 1 := dk
theorem q28_19 : dc kc28 19 (.getfield 77) 3 := dk
theorem q28_22 : dc kc28 22 .aconst_null 1 := dk
theorem q28_23 : dc kc28 23 .aastore 1 := dk
theorem q28_24 : dc kc28 24 (.aload_n 0) 1 := dk
theorem q28_25 : dc kc28 25 (.aload_n 0) 1 := dk
theorem q28_26 : dc kc28 26 (.getfield 77) 3 := dk
theorem q28_29 : dc kc28 29 (.iconst 1) 1 := dk
theorem q28_30 : dc kc28 30 .iadd 1 := dk
theorem q28_31 : dc kc28 31 (.aload_n 0) 1 := dk
theorem q28_32 : dc kc28 32 (.getfield 9) 3 := dk
theorem q28_35 : dc kc28 35 .arraylength 1 := dk
theorem q28_36 : dc kc28 36 .irem 1 := dk
theorem q28_37 : dc kc28 37 (.putfield 77) 3 := dk
theorem q28_40 : dc kc28 40 (.aload_n 0) 1 := dk
theorem q28_41 : dc kc28 41 .dup 1 := dk
theorem q28_42 : dc kc28 42 (.getfield 41) 3 := dk
theorem q28_45 : dc kc28 45 (.iconst 1) 1 := dk
theorem q28_46 : dc kc28 46 .isub 1 := dk
theorem q28_47 : dc kc28 47 (.putfield 41) 3 := dk
theorem q28_50 : dc kc28 50 (.aload_n 0) 1 := dk
theorem q28_51 : dc kc28 51 .dup 1 := dk
theorem q28_52 : dc kc28 52 (.getfield 44) 3 := dk
theorem q28_55 : dc kc28 55 (.iload_n 1) 1 := dk
theorem q28_56 : dc kc28 56 .i2l 1 := dk
theorem q28_57 : dc kc28 57 .lsub 1 := dk
theorem q28_58 : dc kc28 58 (.putfield 44) 3 := dk
theorem q28_61 : dc kc28 61 (.aload_n 0) 1 := dk
theorem q28_62 : dc kc28 62 (.getfield 33) 3 := dk
theorem q28_65 : dc kc28 65 (.iload_n 1) 1 := dk
theorem q28_66 : dc kc28 66 (.invokestatic 50) 3 := dk
theorem q28_69 : dc kc28 69 (.invokevirtual 87) 3 := dk
theorem q28_72 : dc kc28 72 (.aload_n 0) 1 := dk
theorem q28_73 : dc kc28 73 (.getfield 9) 3 := dk
theorem q28_76 : dc kc28 76 .arraylength 1 := dk
theorem q28_77 : dc kc28 77 (.bipush 16) 2 := dk
theorem q28_79 : dc kc28 79 (.if_icmp .le 28) 3 := dk
theorem q28_107 : dc kc28 107 .return_ 1 := dk
theorem q15_0 : dc kc15 0 (.iload_n 1) 1 := dk
theorem q15_1 : dc kc15 1 (.anewarray 7) 3 := dk
theorem q15_4 : dc kc15 4 (.astore_n 2) 1 := dk
theorem q15_5 : dc kc15 5 (.iconst 0) 1 := dk
theorem q15_6 : dc kc15 6 (.istore_n 3) 1 := dk
theorem q15_7 : dc kc15 7 (.iload_n 3) 1 := dk
theorem q15_8 : dc kc15 8 (.aload_n 0) 1 := dk
theorem q15_9 : dc kc15 9 (.getfield 41) 3 := dk
theorem q15_12 : dc kc15 12 (.if_icmp .ge 29) 3 := dk
theorem q15_41 : dc kc15 41 (.aload_n 0) 1 := dk
theorem q15_42 : dc kc15 42 (.aload_n 2) 1 := dk
theorem q15_43 : dc kc15 43 (.putfield 9) 3 := dk
theorem q15_46 : dc kc15 46 (.aload_n 0) 1 := dk
theorem q15_47 : dc kc15 47 (.iconst 0) 1 := dk
theorem q15_48 : dc kc15 48 (.putfield 77) 3 := dk
theorem q15_51 : dc kc15 51 .return_ 1 := dk
theorem q12_0 : dc kc12 0 (.iload_n 0) 1 := dk
theorem q12_1 : dc kc12 1 .i2l 1 := dk
theorem q12_2 : dc kc12 2 (.ldc2_w 91) 3 := dk
theorem q12_5 : dc kc12 5 .ladd 1 := dk
theorem q12_6 : dc kc12 6 .lreturn 1 := dk
section OwnSeg
variable {p : Program} {e : Env} {s : State} {m : MethodId} {below : List Frame} {meth : Method} {c : Code} {s₁ : State} {locs : List Loc} {F₀ : State → Outcome → Prop}
def Q1 (Z : State)  (h0 : Heap) (n0 : Nat) (v : Option Value) (h : Heap) (L : List Loc) : Prop := v = some (.int 10) ∧ Fr n0 L ∧ h = h0
set_option maxRecDepth 65536 in
set_option maxHeartbeats 40000000 in
theorem rm1 (l Z a0) (hw : oW a0 Z) (ws)  (h0 : Heap) (n0 : Nat) (Z0 : n0 ≤ h0.size)  :
   own_Met l own_y25 kc29 2 (some .int) ws own_r0 #[(.int 10), (.int 1)] Z h0 (Q1 Z   h0 n0) := by
 refine own_bd #[vI 10, vI 1] (by decide +kernel) fun p e s m below meth c s₁ hx hby hml hrt hlk hZ hown hnm X0 e0 => ?_
 have N0 := Fr.nil n0
 refine o_il X0 hx hby q29_0 ?_
 refine o_il X0 hx hby q29_1 ?_
 refine o_cn X0 hx hby q29_2 ((flt (by decide)).1) ?_
 refine o_il X0 hx hby q29_5 ?_
 refine o_gt X0 hx hby q29_6 10 ?_
 exact o_rI X0 hx hby hrt hlk q29_10 (by rw [e0]; exact ⟨rfl, N0, rfl⟩)
def Q2 (Z : State) (aL : Addr) (n : Int32) (h0 : Heap) (n0 : Nat) (v : Option Value) (h : Heap) (L : List Loc) : Prop := v = some (.int n) ∧ Fr n0 L ∧ h = h0
set_option maxRecDepth 65536 in
set_option maxHeartbeats 40000000 in
theorem rm2 (l Z a0) (hw : oW a0 Z) (ws) (aL : Addr) (n : Int32) (h0 : Heap) (n0 : Nat) (Z0 : n0 ≤ h0.size) (P0 : oF11 Z h0 aL (.int n)) :
   own_Met l own_y41 kc39 1 (some .int) ws own_r0 #[(.ref aL)] Z h0 (Q2 Z aL n h0 n0) := by
 refine own_bd #[vR aL] (plainFor_of_name pn_0) fun p e s m below meth c s₁ hx hby hml hrt hlk hZ hown hnm X0 e0 => ?_
 have N0 := Fr.nil n0
 refine o_al X0 hx hby q39_0 ?_
 refine o_g X0 hx hZ hown hw hby e0 P0 171 q39_1 fun T1 X1 e1 => ?_
 exact o_rI X1 hx hby hrt hlk q39_4 (by rw [e1]; exact ⟨rfl, N0, rfl⟩)
def Q3 (Z : State) (aL : Addr) (h0 : Heap) (n0 : Nat) (v : Option Value) (h : Heap) (L : List Loc) : Prop := v = some (.int 1) ∧ Fr n0 L ∧ h = h0
set_option maxRecDepth 65536 in
set_option maxHeartbeats 40000000 in
theorem rm3 (l Z a0) (hw : oW a0 Z) (ws) (aL : Addr) (h0 : Heap) (n0 : Nat) (Z0 : n0 ≤ h0.size) (P0 : oF11 Z h0 aL (.int 0)) :
   own_Met l own_y38 kc35 1 (some .boolean) ws own_r0 #[(.ref aL)] Z h0 (Q3 Z aL  h0 n0) := by
 refine own_bd #[vR aL] (plainFor_of_name pn_0) fun p e s m below meth c s₁ hx hby hml hrt hlk hZ hown hnm X0 e0 => ?_
 have N0 := Fr.nil n0
 refine o_al X0 hx hby q35_0 ?_
 refine o_g X0 hx hZ hown hw hby e0 P0 171 q35_1 fun T1 X1 e1 => ?_
 refine o_in X1 hx hby q35_4 ((if0 _ _).trans (teq rfl).2) ?_
 refine o_ic X1 hx hby 1 q35_7 ?_
 refine o_gt X1 hx hby q35_8 12 ?_
 exact o_rZ X1 hx hby hrt hlk q35_12 (by rw [e1]; exact ⟨rfl, N0, rfl⟩)
def Q4 (Z : State) (aL : Addr) (h0 : Heap) (n0 : Nat) (v : Option Value) (h : Heap) (L : List Loc) : Prop := v = some (.int 0) ∧ Fr n0 L ∧ h = h0
set_option maxRecDepth 65536 in
set_option maxHeartbeats 40000000 in
theorem rm4 (l Z a0) (hw : oW a0 Z) (ws) (aL : Addr) (h0 : Heap) (n0 : Nat) (Z0 : n0 ≤ h0.size) (P0 : oF11 Z h0 aL (.int 1)) :
   own_Met l own_y38 kc35 1 (some .boolean) ws own_r0 #[(.ref aL)] Z h0 (Q4 Z aL  h0 n0) := by
 refine own_bd #[vR aL] (plainFor_of_name pn_0) fun p e s m below meth c s₁ hx hby hml hrt hlk hZ hown hnm X0 e0 => ?_
 have N0 := Fr.nil n0
 refine o_al X0 hx hby q35_0 ?_
 refine o_g X0 hx hZ hown hw hby e0 P0 171 q35_1 fun T1 X1 e1 => ?_
 refine o_iy X1 hx hby q35_4 11 ((if0 _ _).trans (feq (by decide)).2) ?_
 refine o_ic X1 hx hby 0 q35_11 ?_
 exact o_rZ X1 hx hby hrt hlk q35_12 (by rw [e1]; exact ⟨rfl, N0, rfl⟩)
def Q5 (Z : State)  (h0 : Heap) (n0 : Nat) (v : Option Value) (h : Heap) (L : List Loc) : Prop := v = some (.int 0) ∧ Fr n0 L ∧ h = h0
set_option maxRecDepth 65536 in
set_option maxHeartbeats 40000000 in
theorem rm5 (l Z a0) (hw : oW a0 Z) (ws)  (h0 : Heap) (n0 : Nat) (Z0 : n0 ≤ h0.size)  :
   own_Met l own_y49 kc20 3 (some .int) ws own_r0 #[(.int 0), (.int 1), .null] Z h0 (Q5 Z   h0 n0) := by
 refine own_bd #[vI 0, vI 1, .val .null] (plainFor_of_name pn_1) fun p e s m below meth c s₁ hx hby hml hrt hlk hZ hown hnm X0 e0 => ?_
 have N0 := Fr.nil n0
 refine o_il X0 hx hby q20_0 ?_
 refine o_in X0 hx hby q20_1 ((if0 _ _).trans (flt (by decide)).1) ?_
 refine o_il X0 hx hby q20_4 ?_
 refine o_il X0 hx hby q20_5 ?_
 refine o_cy X0 hx hby q20_6 16 ((tlt (by decide)).1) ?_
 refine o_il X0 hx hby q20_16 ?_
 exact o_rI X0 hx hby hrt hlk q20_17 (by rw [e0]; exact ⟨rfl, N0, rfl⟩)
def Q6 (Z : State)  (h0 : Heap) (n0 : Nat) (v : Option Value) (h : Heap) (L : List Loc) : Prop := v = some (.int 0) ∧ Fr n0 L ∧ h = h0
set_option maxRecDepth 65536 in
set_option maxHeartbeats 40000000 in
theorem rm6 (l Z a0) (hw : oW a0 Z) (ws)  (h0 : Heap) (n0 : Nat) (Z0 : n0 ≤ h0.size)  :
   own_Met l own_y48 kc14 2 (some .int) ws own_r3 #[(.int 0), (.int 1)] Z h0 (Q6 Z   h0 n0) := by
 refine own_bd #[vI 0, vI 1] (plainFor_of_name pn_2) fun p e s m below meth c s₁ hx hby hml hrt hlk hZ hown hnm X0 e0 => ?_
 have N0 := Fr.nil n0
 refine o_il X0 hx hby q14_0 ?_
 refine o_il X0 hx hby q14_1 ?_
 refine o_an X0 hx hby q14_2 ?_
 refine o_cS X0 hx hZ hown hw hml hby (rm5 l Z a0 hw []   h0 n0 Z0 ) e0 225 226 227 228 0 q14_3 [(.int 0), (.int 1), .null] [] pd_0 hy_0 fun v1 T1 L1 hQ1 X1 => ?_
 obtain ⟨rfl, Nq1, eq1⟩ := hQ1
 have N1 := Fr.app N0 Nq1
 refine oV ?_
 exact o_rI X1 hx hby hrt hlk q14_6 (by rw [eq1]; exact ⟨rfl, N1, rfl⟩)
def Q7 (Z : State) (aL aA : Addr) (g : Nat → Value) (aS : Addr) (h0 : Heap) (n0 : Nat) (v : Option Value) (h : Heap) (L : List Loc) : Prop := v = some (.ref aS) ∧ Fr n0 L ∧ h = h0
set_option maxRecDepth 65536 in
set_option maxHeartbeats 40000000 in
theorem rm7 (l Z a0) (hw : oW a0 Z) (ws) (aL aA : Addr) (g : Nat → Value) (aS : Addr) (h0 : Heap) (n0 : Nat) (Z0 : n0 ≤ h0.size) (P0 : oF10 Z h0 aL (.ref aA)) (P1 : own_RO Z h0 aA (10 : Int32) g) (P2 : g (0 : Int32).toNatClampNeg = .ref aS) :
   own_Met l own_y33 kc33 2 (some (.object "java/lang/Object")) ws own_r0 #[(.ref aL), (.int 0)] Z h0 (Q7 Z aL aA g aS h0 n0) := by
 refine own_bd #[vR aL, vI 0] (plainFor_of_name pn_0) fun p e s m below meth c s₁ hx hby hml hrt hlk hZ hown hnm X0 e0 => ?_
 have N0 := Fr.nil n0
 refine o_al X0 hx hby q33_0 ?_
 refine o_g X0 hx hZ hown hw hby e0 P0 64 q33_1 fun T1 X1 e1 => ?_
 refine o_il X1 hx hby q33_4 ?_
 refine o_aa (v := (.ref aS)) X1 hx hZ hby e1 P1 q33_5 ⟨by decide, by decide⟩ P2 ?_
 exact o_rA X1 hx hby hrt hlk q33_6 (by rw [e1]; exact ⟨rfl, N0, rfl⟩)
def Q8 (Z : State) (aL aA : Addr) (g : Nat → Value) (aS : Addr) (h0 : Heap) (n0 : Nat) (v : Option Value) (h : Heap) (L : List Loc) : Prop := v = some (.ref aS) ∧ Fr n0 L ∧ h = h0
set_option maxRecDepth 65536 in
set_option maxHeartbeats 40000000 in
theorem rm8 (l Z a0) (hw : oW a0 Z) (ws) (aL aA : Addr) (g : Nat → Value) (aS : Addr) (h0 : Heap) (n0 : Nat) (Z0 : n0 ≤ h0.size) (P0 : oX4 Z h0 aL) (P1 : oF10 Z h0 aL (.ref aA)) (P2 : oF11 Z h0 aL (.int 1)) (P3 : own_RO Z h0 aA (10 : Int32) g) (P4 : g (0 : Int32).toNatClampNeg = .ref aS) :
   own_Met l own_y35 kc11 2 (some (.object "java/lang/Object")) ws own_r9 #[(.ref aL), (.int 0)] Z h0 (Q8 Z aL aA g aS h0 n0) := by
 refine own_bd #[vR aL, vI 0] (plainFor_of_name pn_0) fun p e s m below meth c s₁ hx hby hml hrt hlk hZ hown hnm X0 e0 => ?_
 have N0 := Fr.nil n0
 refine o_il X0 hx hby q11_0 ?_
 refine o_al X0 hx hby q11_1 ?_
 refine o_g X0 hx hZ hown hw hby e0 P2 171 q11_2 fun T1 X1 e1 => ?_
 refine o_cS X1 hx hZ hown hw hml hby (rm6 l Z a0 hw []   h0 n0 Z0 ) e1 221 222 223 224 0 q11_5 [(.int 0), (.int 1)] [] pd_1 hy_1 fun v2 T2 L2 hQ2 X2 => ?_
 obtain ⟨rfl, Nq2, eq2⟩ := hQ2
 have N2 := Fr.app N0 Nq2
 refine oV ?_
 refine o_pop X2 hx hby q11_8 ?_
 refine o_al X2 hx hby q11_9 ?_
 refine o_il X2 hx hby q11_10 ?_
 refine o_cV X2 hx hZ hown hw hml hby (rm7 l Z a0 hw [] aL aA g aS h0 n0 Z0 P1 P3 P4) P0 eq2 229 230 232 231 233 44 0 q11_11 [(.int 0)] [] pd_2 hy_2 fun v3 T3 L3 hQ3 X3 => ?_
 obtain ⟨rfl, Nq3, eq3⟩ := hQ3
 have N3 := Fr.app N2 Nq3
 refine oV ?_
 exact o_rA X3 hx hby hrt hlk q11_14 (by rw [eq3]; exact ⟨rfl, N3, rfl⟩)
def Q9 (Z : State) (aL aS aA : Addr) (g : Nat → Value) (h0 : Heap) (n0 : Nat) (v : Option Value) (h : Heap) (L : List Loc) : Prop := ∃ gq : Nat → Value, v = some (.ref aS) ∧ Fr n0 L ∧ Keep h0 h [aA] ∧ (own_RO Z h aA (10 : Int32) gq) ∧ (gq (0 : Int32).toNatClampNeg = .ref aS)
set_option maxRecDepth 65536 in
set_option maxHeartbeats 40000000 in
theorem rm9 (l Z a0) (hw : oW a0 Z) (ws) (aL aS aA : Addr) (g : Nat → Value) (h0 : Heap) (n0 : Nat) (Z0 : n0 ≤ h0.size) (P0 : oX4 Z h0 aL) (P1 : oX3 Z h0 aS) (P2 : oF10 Z h0 aL (.ref aA)) (P3 : oF11 Z h0 aL (.int 1)) (P4 : own_RO Z h0 aA (10 : Int32) g) (P5 : g (0 : Int32).toNatClampNeg = .ref aS) (P6 : n0 ≤ aA) :
   own_Met l own_y40 kc30 4 (some (.object "java/lang/Object")) ws own_r9 #[(.ref aL), (.int 0), (.ref aS)] Z h0 (Q9 Z aL aS aA g h0 n0) := by
 refine own_bd #[vR aL, vI 0, vR aS, .unset] (plainFor_of_name pn_0) fun p e s m below meth c s₁ hx hby hml hrt hlk hZ hown hnm X0 e0 => ?_
 have N0 := Fr.nil n0
 refine o_il X0 hx hby q30_0 ?_
 refine o_al X0 hx hby q30_1 ?_
 refine o_g X0 hx hZ hown hw hby e0 P3 171 q30_2 fun T1 X1 e1 => ?_
 refine o_cS X1 hx hZ hown hw hml hby (rm6 l Z a0 hw []   h0 n0 Z0 ) e1 221 222 223 224 0 q30_5 [(.int 0), (.int 1)] [] pd_1 hy_1 fun v2 T2 L2 hQ2 X2 => ?_
 obtain ⟨rfl, Nq2, eq2⟩ := hQ2
 have N2 := Fr.app N0 Nq2
 refine oV ?_
 refine o_pop X2 hx hby q30_8 ?_
 refine o_al X2 hx hby q30_9 ?_
 refine o_il X2 hx hby q30_10 ?_
 refine o_cV X2 hx hZ hown hw hml hby (rm7 l Z a0 hw [] aL aA g aS h0 n0 Z0 P2 P4 P5) P0 eq2 229 230 232 231 233 44 0 q30_11 [(.int 0)] [] pd_2 hy_2 fun v3 T3 L3 hQ3 X3 => ?_
 obtain ⟨rfl, Nq3, eq3⟩ := hQ3
 have N3 := Fr.app N2 Nq3
 refine oV ?_
 refine o_as X3 hx hby q30_14 #[vR aL, vI 0, vR aS, vR aS] ?_
 refine o_al X3 hx hby q30_15 ?_
 refine o_g X3 hx hZ hown hw hby eq3 P2 64 q30_16 fun T4 X4 e4 => ?_
 refine o_il X4 hx hby q30_19 ?_
 refine o_al X4 hx hby q30_20 ?_
 obtain ⟨cl5, Ar5, Sz5, Nz5, Ov5, -⟩ := P4.opened
 have hin5 := inb_of (j := (0 : Int32)) Sz5 ⟨by decide, by decide⟩
 obtain ⟨T5, h5, X5, e5, W5, st5⟩ := stR X4 hx hZ e4 Ar5 (j := (0 : Int32)) (v := (.ref aS)) hin5 rfl (Sto.of Ar5 Ov5 (Ins.of_exa P1 (own_w hw 204 rfl))) (g := (mkF m 21 #[vR aL, vI 0, vR aS, vR aS] [(.ref aS), (.int 0), (.ref aA)])) rfl rfl (hb hby q30_21)
 refine oS st5 ?_
 have N5 := Fr.snoc X5 N3 P6
 have V5 : own_RO Z h5 aA (10 : Int32) (own_updV g (0 : Int32).toNatClampNeg (.ref aS)) := P4.set W5 ⟨by decide, by decide⟩ rfl
 have f6 := P0.wr W5
 have f7 := P1.wr W5
 have ne8 := own_neE P0 P4.exa (Ne.symm ns_0)
 have f9 := P2.other W5 (Or.inl ne8)
 have f10 := P3.other W5 (Or.inl ne8)
 have K11 := (Keep.refl h0 [aA]).wr W5 (ow 0 rfl)
 have z12 := Nat.le_trans Z0 (Keep.of_wr W5).1
 show oG _ _ _ _ (T5.setTop (mkF m 22 #[vR aL, vI 0, vR aS, vR aS] []))
 refine o_al X5 hx hby q30_22 ?_
 exact o_rA X5 hx hby hrt hlk q30_23 (by rw [e5]; exact ⟨(own_updV g (0 : Int32).toNatClampNeg (.ref aS)), rfl, N5, K11, V5, (by simp [own_updV])⟩)
def Q10 (Z : State) (aL aD : Addr) (kD : ClassId) (mc : Int32) (h0 : Heap) (n0 : Nat) (v : Option Value) (h : Heap) (L : List Loc) : Prop := ∃ r : Addr, v = some (.ref r) ∧ Fr n0 L ∧ Keep h0 h [aL] ∧ (h0.size ≤ r) ∧ (oF10 Z h aL (.ref r)) ∧ (oF11 Z h aL (.int 0)) ∧ (oF12 Z h aL (.int mc)) ∧ (own_RO Z h r (10 : Int32) own_nulls)
set_option maxRecDepth 65536 in
set_option maxHeartbeats 40000000 in
theorem rm10 (l Z a0) (hw : oW a0 Z) (ws) (aL aD : Addr) (kD : ClassId) (mc : Int32) (h0 : Heap) (n0 : Nat) (Z0 : n0 ≤ h0.size) (P0 : oX4 Z h0 aL) (P1 : Old Z n0 h0) (P2 : Sta Z Z.heap "java/util/ArrayList" "DEFAULTCAPACITY_EMPTY_ELEMENTDATA" "[Ljava/lang/Object;" (.ref aD)) (P3 : Arv Z Z.heap aD kD (.object "java/lang/Object") (0 : Int32) [] .null) (P4 : oF10 Z h0 aL (.ref aD)) (P5 : oF11 Z h0 aL (.int 0)) (P6 : oF12 Z h0 aL (.int mc)) (P7 : n0 ≤ aL) :
   own_Met l own_y37 kc38 4 (some (.array (.object "java/lang/Object"))) ws own_r6 #[(.ref aL), (.int 1)] Z h0 (Q10 Z aL aD kD mc h0 n0) := by
 refine own_bd #[vR aL, vI 1, .unset, .unset] (plainFor_of_name pn_0) fun p e s m below meth c s₁ hx hby hml hrt hlk hZ hown hnm X0 e0 => ?_
 have N0 := Fr.nil n0
 refine o_al X0 hx hby q38_0 ?_
 refine o_g X0 hx hZ hown hw hby e0 P4 64 q38_1 fun T1 X1 e1 => ?_
 refine o_nA X1 hx hZ hby e1 ((P3.ext P1.2)) q38_4 ?_
 refine o_is X1 hx hby q38_5 #[vR aL, vI 1, vI 0, .unset] ?_
 refine o_il X1 hx hby q38_6 ?_
 refine o_in X1 hx hby q38_7 ((if0 _ _).trans (flt (by decide)).2.2.1) ?_
 refine o_al X1 hx hby q38_10 ?_
 refine o_g X1 hx hZ hown hw hby e1 P4 64 q38_11 fun T3 X3 e3 => ?_
 obtain ⟨T4, X4, e4, st4⟩ := getS2 X3 hx hZ hown (host := "") (Or.inl (own_w hw 63 rfl)) Via.refl e3 (P2.ext P1.2) (g := (mkF m 14 #[vR aL, vI 1, vI 0, .unset] [(.ref aD)])) rfl (hb hby q38_14)
 refine oS st4 ?_
 show oG _ _ _ _ (T4.setTop (mkF m 17 #[vR aL, vI 1, vI 0, .unset] [(.ref aD), (.ref aD)]))
 refine o_ac X4 hx hby q38_17 45 true (decide_eq_true rfl) ?_
 refine o_al X4 hx hby q38_45 ?_
 refine o_bp X4 hx hby 10 q38_46 ?_
 refine o_il X4 hx hby q38_48 ?_
 refine o_cS X4 hx hZ hown hw hml hby (rm1 l Z a0 hw []   h0 n0 Z0 ) e4 198 199 200 201 1 q38_49 [(.int 10), (.int 1)] [(.ref aL)] pd_1 hy_3 fun v5 T5 L5 hQ5 X5 => ?_
 obtain ⟨rfl, Nq5, eq5⟩ := hQ5
 have N5 := Fr.app N0 Nq5
 refine oV ?_
 show oG _ _ _ _ (T5.setTop (mkF m 52 #[vR aL, vI 1, vI 0, .unset] [(.int 10), (.ref aL)]))
 obtain ⟨T6, h6, k6, X6, e6, E6, A6, Ex6, O6, st6⟩ := newRE X5 hx hZ hown (own_w hw 202 rfl) (own_w hw 203 rfl) eq5 (g := (mkF m 52 #[vR aL, vI 1, vI 0, .unset] [(.int 10), (.ref aL)])) rfl (hb hby q38_52) rfl (by decide) (cap := 10) (by decide) (by decide) (by decide) (by decide) (ad := "[Ljava/lang/Object;") (by decide)
 obtain ⟨b6, g6⟩ : ∃ z, z = h0.size := ⟨_, rfl⟩
 rw [← g6] at A6 Ex6 st6
 refine oS st6 ?_
 have ne7 : aL ≠ b6 := Nat.ne_of_lt (Nat.lt_of_lt_of_le P0.lt (Nat.le_of_eq g6.symm))
 have ne8 : aD ≠ b6 := Nat.ne_of_lt (Nat.lt_of_lt_of_le (P3.ext P1.2).lt (Nat.le_of_eq g6.symm))
 have ge9 : n0 ≤ b6 := Nat.le_trans Z0 (Nat.le_of_eq g6.symm)
 have sz10 : h0.size ≤ b6 := Nat.le_trans (Keep.refl h0 [aL]).1 (Nat.le_of_eq g6.symm)
 have f11 := P0.ext E6
 have f12 := P1.ext E6
 have f13 := P4.ext E6
 have f14 := P5.ext E6
 have f15 := P6.ext E6
 have K16 := (Keep.refl h0 [aL]).ext E6
 have z17 := Nat.le_trans Z0 E6.1
 have V6 : own_RO Z h6 b6 (10 : Int32) own_nulls := own_Rg.new A6 O6 Ex6 (by decide) (Nat.le_trans (m := 10) (by decide) (by decide))
 show oG _ _ _ _ (T6.setTop (mkF m 55 #[vR aL, vI 1, vI 0, .unset] [(.ref b6), (.ref aL)]))
 refine oS (fun _ κ => XS.dupX1 X6.here hx rfl (hb hby q38_55) rfl rfl rfl κ) ?_
 show oG _ _ _ _ (T6.setTop (mkF m 56 #[vR aL, vI 1, vI 0, .unset] [(.ref b6), (.ref aL), (.ref b6)]))
 refine o_pF X6 hx hZ hown hby (own_w hw 64 rfl) Via.refl e6 f13 f11 (Or.inl (own_w hw 65 rfl)) (own_w hw 43 rfl) ft_0 q38_56 fun T18 h18 X18 e18 W18 => ?_
 have N18 := Fr.snoc X18 N5 P7
 have Fw18 := f13.same W18
 have f19 := f11.wr W18
 have f20 := f12.wr W18 P7
 have f21 := f14.other W18 (Or.inr (sn_0 hw))
 have f22 := f15.other W18 (Or.inr (sn_1 hw))
 have f23 := V6.other W18 (Ne.symm ne7)
 have K24 := K16.wr W18 (ow 0 rfl)
 have z25 := Nat.le_trans z17 (Keep.of_wr W18).1
 exact o_rA X18 hx hby hrt hlk q38_59 (by rw [e18]; exact ⟨b6, rfl, N18, K24, sz10, Fw18, f21, f22, f23⟩)
def Q11 (Z : State) (aL aD : Addr) (kD : ClassId) (mc : Int32) (h0 : Heap) (n0 : Nat) (v : Option Value) (h : Heap) (L : List Loc) : Prop := ∃ r : Addr, v = some (.ref r) ∧ Fr n0 L ∧ Keep h0 h [aL] ∧ (h0.size ≤ r) ∧ (oF10 Z h aL (.ref r)) ∧ (oF11 Z h aL (.int 0)) ∧ (oF12 Z h aL (.int mc)) ∧ (own_RO Z h r (10 : Int32) own_nulls)
set_option maxRecDepth 65536 in
set_option maxHeartbeats 40000000 in
theorem rm11 (l Z a0) (hw : oW a0 Z) (ws) (aL aD : Addr) (kD : ClassId) (mc : Int32) (h0 : Heap) (n0 : Nat) (Z0 : n0 ≤ h0.size) (P0 : oX4 Z h0 aL) (P1 : Old Z n0 h0) (P2 : Sta Z Z.heap "java/util/ArrayList" "DEFAULTCAPACITY_EMPTY_ELEMENTDATA" "[Ljava/lang/Object;" (.ref aD)) (P3 : Arv Z Z.heap aD kD (.object "java/lang/Object") (0 : Int32) [] .null) (P4 : oF10 Z h0 aL (.ref aD)) (P5 : oF11 Z h0 aL (.int 0)) (P6 : oF12 Z h0 aL (.int mc)) (P7 : n0 ≤ aL) :
   own_Met l own_y36 kc40 1 (some (.array (.object "java/lang/Object"))) ws own_r11 #[(.ref aL)] Z h0 (Q11 Z aL aD kD mc h0 n0) := by
 refine own_bd #[vR aL] (plainFor_of_name pn_0) fun p e s m below meth c s₁ hx hby hml hrt hlk hZ hown hnm X0 e0 => ?_
 have N0 := Fr.nil n0
 refine o_al X0 hx hby q40_0 ?_
 refine o_al X0 hx hby q40_1 ?_
 refine o_g X0 hx hZ hown hw hby e0 P5 171 q40_2 fun T1 X1 e1 => ?_
 refine o_ic X1 hx hby 1 q40_5 ?_
 refine o_iadd X1 hx hby q40_6 ?_
 rw [show (((0 : Int32) + (1 : Int32)) : Int32) = (1 : Int32) from by decide]
 obtain ⟨cq2, q2, q2'⟩ := P0.cell
 obtain ⟨vr2, _, ⟨T2, L2, k2, n2⟩, -, X2, ⟨Lc2, hQ2, l2, y2, z2⟩, st2⟩ := X1.privateBack hx (y := own_y37) hown (mvT hZ (own_w hw 193 rfl)) (mvT hZ (own_w hw 194 rfl)) (mvT hZ (own_w hw 196 rfl)) (Cond.privateMethod_at (mvP hZ (own_w hw 195 rfl) (args := #[]))) (mvT hZ (own_w hw 197 rfl)) (by decide) (backOf (W := 0) (rm10 l Z a0 hw [] aL aD kD mc h0 n0 Z0 P0 P1 P2 P3 P4 P5 P6 P7) hZ (own_w hw 197 rfl) (own_w hw 44 rfl) (by decide) (by decide)) (g := (mkF m 7 #[vR aL] [(.int 1), (.ref aL)])) rfl (by rw [hml]; rfl) (Steps.refl _) (a := aL) (by rw [e1]; exact q2) q2' (argsL := [(.int 1)]) (rest := []) (lenOf pd_3 rfl) rfl own_2z (hb hby q40_7) (fun _ _ => ⟨rfl, e1, (by decide : 0 + 1 ≤ _), (by decide : 0 + 10 ≤ _)⟩)
 dsimp only [Pt.U, Pt.locs, Pt.cells, Pt.slots] at X2 l2 y2 z2 st2 hQ2
 subst l2 y2 z2
 obtain ⟨r3, rfl, Nq2, Kq2, p2_0, p2_1, p2_2, p2_3, p2_4⟩ := hQ2
 have N2 := Fr.app N0 Nq2
 have ne4 : aL ≠ r3 := Nat.ne_of_lt (Nat.lt_of_lt_of_le P0.lt p2_0)
 have ne5 : aD ≠ r3 := Nat.ne_of_lt (Nat.lt_of_lt_of_le (P3.ext P1.2).lt p2_0)
 have ge6 : n0 ≤ r3 := Nat.le_trans Z0 p2_0
 have sz7 : h0.size ≤ r3 := Nat.le_trans (Keep.refl h0 [aL]).1 p2_0
 have f8 := P0.keep Kq2
 have f9 := P1.keep Kq2 (allS P7 all0)
 have K10 := own_ktr (Keep.refl h0 [aL]) Kq2
 have z11 := Nat.le_trans Z0 Kq2.1
 refine oS (fun _ κ => st2.trans κ) ?_
 show oG _ _ _ _ (T2.setTop (mkF m 10 #[vR aL] [(.ref r3)]))
 exact o_rA X2 hx hby hrt hlk q40_10 ⟨r3, rfl, N2, K10, sz7, p2_1, p2_2, p2_3, p2_4⟩
def Q12 (Z : State) (aL aS aD : Addr) (kD : ClassId) (mc : Int32) (h0 : Heap) (n0 : Nat) (v : Option Value) (h : Heap) (L : List Loc) : Prop := ∃ aA : Addr, ∃ gq : Nat → Value, v = none ∧ Fr n0 L ∧ Keep h0 h [aL] ∧ (h0.size ≤ aA) ∧ (oF10 Z h aL (.ref aA)) ∧ (oF11 Z h aL (.int 1)) ∧ (oF12 Z h aL (.int mc)) ∧ (own_RO Z h aA (10 : Int32) gq) ∧ (gq (0 : Int32).toNatClampNeg = .ref aS)
set_option maxRecDepth 65536 in
set_option maxHeartbeats 40000000 in
theorem rm12 (l Z a0) (hw : oW a0 Z) (ws) (aL aS aD : Addr) (kD : ClassId) (mc : Int32) (h0 : Heap) (n0 : Nat) (Z0 : n0 ≤ h0.size) (P0 : oX4 Z h0 aL) (P1 : oX3 Z h0 aS) (P2 : Old Z n0 h0) (P3 : Sta Z Z.heap "java/util/ArrayList" "DEFAULTCAPACITY_EMPTY_ELEMENTDATA" "[Ljava/lang/Object;" (.ref aD)) (P4 : Arv Z Z.heap aD kD (.object "java/lang/Object") (0 : Int32) [] .null) (P5 : oF10 Z h0 aL (.ref aD)) (P6 : oF11 Z h0 aL (.int 0)) (P7 : oF12 Z h0 aL (.int mc)) (P8 : n0 ≤ aL) :
   own_Met l own_y32 kc9 4 none ws own_r17 #[(.ref aL), (.ref aS), (.ref aD), (.int 0)] Z h0 (Q12 Z aL aS aD kD mc h0 n0) := by
 refine own_bd #[vR aL, vR aS, vR aD, vI 0] (plainFor_of_name pn_0) fun p e s m below meth c s₁ hx hby hml hrt hlk hZ hown hnm X0 e0 => ?_
 have N0 := Fr.nil n0
 refine o_il X0 hx hby q9_0 ?_
 refine o_al X0 hx hby q9_1 ?_
 refine o_nA X0 hx hZ hby e0 ((P4.ext P2.2)) q9_2 ?_
 refine o_cn X0 hx hby q9_3 ((teq rfl).2) ?_
 refine o_al X0 hx hby q9_6 ?_
 obtain ⟨cq2, q2, q2'⟩ := P0.cell
 obtain ⟨vr2, _, ⟨T2, L2, k2, n2⟩, -, X2, ⟨Lc2, hQ2, l2, y2, z2⟩, st2⟩ := X0.privateBack hx (y := own_y36) hown (mvT hZ (own_w hw 188 rfl)) (mvT hZ (own_w hw 189 rfl)) (mvT hZ (own_w hw 191 rfl)) (Cond.privateMethod_at (mvP hZ (own_w hw 190 rfl) (args := #[]))) (mvT hZ (own_w hw 192 rfl)) (by decide) (backOf (W := 0) (rm11 l Z a0 hw [] aL aD kD mc h0 n0 Z0 P0 P2 P3 P4 P5 P6 P7 P8) hZ (own_w hw 192 rfl) (own_w hw 44 rfl) (by decide) (by decide)) (g := (mkF m 7 #[vR aL, vR aS, vR aD, vI 0] [(.ref aL)])) rfl (by rw [hml]; rfl) (Steps.refl _) (a := aL) (by rw [e0]; exact q2) q2' (argsL := []) (rest := []) (lenOf pd_4 rfl) rfl own_2z (hb hby q9_7) (fun _ _ => ⟨rfl, e0, (by decide : 0 + 1 ≤ _), (by decide : 0 + 10 ≤ _)⟩)
 dsimp only [Pt.U, Pt.locs, Pt.cells, Pt.slots] at X2 l2 y2 z2 st2 hQ2
 subst l2 y2 z2
 obtain ⟨r3, rfl, Nq2, Kq2, p2_0, p2_1, p2_2, p2_3, p2_4⟩ := hQ2
 have N2 := Fr.app N0 Nq2
 have ne4 : aL ≠ r3 := Nat.ne_of_lt (Nat.lt_of_lt_of_le P0.lt p2_0)
 have ne5 : aS ≠ r3 := Nat.ne_of_lt (Nat.lt_of_lt_of_le P1.lt p2_0)
 have ne6 : aD ≠ r3 := Nat.ne_of_lt (Nat.lt_of_lt_of_le (P4.ext P2.2).lt p2_0)
 have ge7 : n0 ≤ r3 := Nat.le_trans Z0 p2_0
 have sz8 : h0.size ≤ r3 := Nat.le_trans (Keep.refl h0 [aL]).1 p2_0
 have f9 := P0.keep Kq2
 have f10 := P1.keep Kq2
 have f11 := P2.keep Kq2 (allS P8 all0)
 have K12 := own_ktr (Keep.refl h0 [aL]) Kq2
 have z13 := Nat.le_trans Z0 Kq2.1
 refine oS (fun _ κ => st2.trans κ) ?_
 show oG _ _ _ _ (T2.setTop (mkF m 10 #[vR aL, vR aS, vR aD, vI 0] [(.ref r3)]))
 refine o_as X2 hx hby q9_10 #[vR aL, vR aS, vR r3, vI 0] ?_
 refine o_al X2 hx hby q9_11 ?_
 refine o_il X2 hx hby q9_12 ?_
 refine o_al X2 hx hby q9_13 ?_
 obtain ⟨cl14, Ar14, Sz14, Nz14, Ov14, -⟩ := p2_4.opened
 have hin14 := inb_of (j := (0 : Int32)) Sz14 ⟨by decide, by decide⟩
 obtain ⟨T14, h14, X14, e14, W14, st14⟩ := stR X2 hx hZ rfl Ar14 (j := (0 : Int32)) (v := (.ref aS)) hin14 rfl (Sto.of Ar14 Ov14 (Ins.of_exa f10 (own_w hw 204 rfl))) (g := (mkF m 14 #[vR aL, vR aS, vR r3, vI 0] [(.ref aS), (.int 0), (.ref r3)])) rfl rfl (hb hby q9_14)
 refine oS st14 ?_
 have N14 := Fr.snoc X14 N2 ge7
 have V14 : own_RO Z h14 r3 (10 : Int32) (own_updV own_nulls (0 : Int32).toNatClampNeg (.ref aS)) := p2_4.set W14 ⟨by decide, by decide⟩ rfl
 have f15 := f9.wr W14
 have f16 := f10.wr W14
 have f17 := f11.wr W14 ge7
 have f18 := p2_1.other W14 (Or.inl ne4)
 have f19 := p2_2.other W14 (Or.inl ne4)
 have f20 := p2_3.other W14 (Or.inl ne4)
 have K21 := K12.wr W14 (Or.inr sz8)
 have z22 := Nat.le_trans z13 (Keep.of_wr W14).1
 show oG _ _ _ _ (T14.setTop (mkF m 15 #[vR aL, vR aS, vR r3, vI 0] []))
 refine o_al X14 hx hby q9_15 ?_
 refine o_il X14 hx hby q9_16 ?_
 refine o_ic X14 hx hby 1 q9_17 ?_
 refine o_iadd X14 hx hby q9_18 ?_
 rw [show (((0 : Int32) + (1 : Int32)) : Int32) = (1 : Int32) from by decide]
 refine o_pF X14 hx hZ hown hby (own_w hw 171 rfl) Via.refl e14 f19 f15 (Or.inl (own_w hw 172 rfl)) (own_w hw 43 rfl) ft_1 q9_19 fun T23 h23 X23 e23 W23 => ?_
 have N23 := Fr.snoc X23 N14 P8
 have Fw23 := f19.same W23
 have f24 := f15.wr W23
 have f25 := f16.wr W23
 have f26 := f17.wr W23 P8
 have f27 := f18.other W23 (Or.inr (sn_2 hw))
 have f28 := f20.other W23 (Or.inr (sn_3 hw))
 have f29 := V14.other W23 (Ne.symm ne4)
 have K30 := K21.wr W23 (ow 0 rfl)
 have z31 := Nat.le_trans z22 (Keep.of_wr W23).1
 exact o_rv X23 hx hby hrt hlk q9_22 (by rw [e23]; exact ⟨r3, (own_updV own_nulls (0 : Int32).toNatClampNeg (.ref aS)), rfl, N23, K30, sz8, f27, Fw23, f28, f29, (by simp [own_updV])⟩)
def Q13 (Z : State) (aL aS aA : Addr) (g : Nat → Value) (mc : Int32) (h0 : Heap) (n0 : Nat) (v : Option Value) (h : Heap) (L : List Loc) : Prop := ∃ gq : Nat → Value, v = none ∧ Fr n0 L ∧ Keep h0 h [aL, aA] ∧ (oF10 Z h aL (.ref aA)) ∧ (oF11 Z h aL (.int 1)) ∧ (oF12 Z h aL (.int mc)) ∧ (own_RO Z h aA (10 : Int32) gq) ∧ (gq (0 : Int32).toNatClampNeg = .ref aS)
set_option maxRecDepth 65536 in
set_option maxHeartbeats 40000000 in
theorem rm13 (l Z a0) (hw : oW a0 Z) (ws) (aL aS aA : Addr) (g : Nat → Value) (mc : Int32) (h0 : Heap) (n0 : Nat) (Z0 : n0 ≤ h0.size) (P0 : oX4 Z h0 aL) (P1 : oX3 Z h0 aS) (P2 : oF11 Z h0 aL (.int 0)) (P3 : oF10 Z h0 aL (.ref aA)) (P4 : oF12 Z h0 aL (.int mc)) (P5 : own_RO Z h0 aA (10 : Int32) g) (P6 : n0 ≤ aL) (P7 : n0 ≤ aA) :
   own_Met l own_y32 kc9 4 none ws own_r0 #[(.ref aL), (.ref aS), (.ref aA), (.int 0)] Z h0 (Q13 Z aL aS aA g mc h0 n0) := by
 refine own_bd #[vR aL, vR aS, vR aA, vI 0] (plainFor_of_name pn_0) fun p e s m below meth c s₁ hx hby hml hrt hlk hZ hown hnm X0 e0 => ?_
 have N0 := Fr.nil n0
 refine o_il X0 hx hby q9_0 ?_
 refine o_al X0 hx hby q9_1 ?_
 refine o_nG X0 hx hZ hby e0 P5 q9_2 ?_
 refine o_cy X0 hx hby q9_3 11 ((feq (by decide)).2) ?_
 refine o_al X0 hx hby q9_11 ?_
 refine o_il X0 hx hby q9_12 ?_
 refine o_al X0 hx hby q9_13 ?_
 obtain ⟨cl2, Ar2, Sz2, Nz2, Ov2, -⟩ := P5.opened
 have hin2 := inb_of (j := (0 : Int32)) Sz2 ⟨by decide, by decide⟩
 obtain ⟨T2, h2, X2, e2, W2, st2⟩ := stR X0 hx hZ e0 Ar2 (j := (0 : Int32)) (v := (.ref aS)) hin2 rfl (Sto.of Ar2 Ov2 (Ins.of_exa P1 (own_w hw 204 rfl))) (g := (mkF m 14 #[vR aL, vR aS, vR aA, vI 0] [(.ref aS), (.int 0), (.ref aA)])) rfl rfl (hb hby q9_14)
 refine oS st2 ?_
 have N2 := Fr.snoc X2 N0 P7
 have V2 : own_RO Z h2 aA (10 : Int32) (own_updV g (0 : Int32).toNatClampNeg (.ref aS)) := P5.set W2 ⟨by decide, by decide⟩ rfl
 have f3 := P0.wr W2
 have f4 := P1.wr W2
 have ne5 := own_neE P0 P5.exa (Ne.symm ns_0)
 have f6 := P2.other W2 (Or.inl ne5)
 have f7 := P3.other W2 (Or.inl ne5)
 have f8 := P4.other W2 (Or.inl ne5)
 have K9 := (Keep.refl h0 [aL, aA]).wr W2 (ow 1 rfl)
 have z10 := Nat.le_trans Z0 (Keep.of_wr W2).1
 show oG _ _ _ _ (T2.setTop (mkF m 15 #[vR aL, vR aS, vR aA, vI 0] []))
 refine o_al X2 hx hby q9_15 ?_
 refine o_il X2 hx hby q9_16 ?_
 refine o_ic X2 hx hby 1 q9_17 ?_
 refine o_iadd X2 hx hby q9_18 ?_
 rw [show (((0 : Int32) + (1 : Int32)) : Int32) = (1 : Int32) from by decide]
 refine o_pF X2 hx hZ hown hby (own_w hw 171 rfl) Via.refl e2 f6 f3 (Or.inl (own_w hw 172 rfl)) (own_w hw 43 rfl) ft_1 q9_19 fun T11 h11 X11 e11 W11 => ?_
 have N11 := Fr.snoc X11 N2 P6
 have Fw11 := f6.same W11
 have f12 := f3.wr W11
 have f13 := f4.wr W11
 have f14 := f7.other W11 (Or.inr (sn_2 hw))
 have f15 := f8.other W11 (Or.inr (sn_3 hw))
 have f16 := V2.other W11 (Ne.symm ne5)
 have K17 := K9.wr W11 (ow 0 rfl)
 have z18 := Nat.le_trans z10 (Keep.of_wr W11).1
 exact o_rv X11 hx hby hrt hlk q9_22 (by rw [e11]; exact ⟨(own_updV g (0 : Int32).toNatClampNeg (.ref aS)), rfl, N11, K17, f14, Fw11, f15, f16, (by simp [own_updV])⟩)
def Q14 (Z : State) (aL aS aD : Addr) (kD : ClassId) (mc : Int32) (h0 : Heap) (n0 : Nat) (v : Option Value) (h : Heap) (L : List Loc) : Prop := ∃ aA : Addr, ∃ gq : Nat → Value, v = some (.int 1) ∧ Fr n0 L ∧ Keep h0 h [aL] ∧ (h0.size ≤ aA) ∧ (oF10 Z h aL (.ref aA)) ∧ (oF11 Z h aL (.int 1)) ∧ (oF12 Z h aL (.int (mc + (1 : Int32)))) ∧ (own_RO Z h aA (10 : Int32) gq) ∧ (gq (0 : Int32).toNatClampNeg = .ref aS)
set_option maxRecDepth 65536 in
set_option maxHeartbeats 40000000 in
theorem rm14 (l Z a0) (hw : oW a0 Z) (ws) (aL aS aD : Addr) (kD : ClassId) (mc : Int32) (h0 : Heap) (n0 : Nat) (Z0 : n0 ≤ h0.size) (P0 : oX4 Z h0 aL) (P1 : oX3 Z h0 aS) (P2 : Old Z n0 h0) (P3 : Sta Z Z.heap "java/util/ArrayList" "DEFAULTCAPACITY_EMPTY_ELEMENTDATA" "[Ljava/lang/Object;" (.ref aD)) (P4 : Arv Z Z.heap aD kD (.object "java/lang/Object") (0 : Int32) [] .null) (P5 : oF10 Z h0 aL (.ref aD)) (P6 : oF11 Z h0 aL (.int 0)) (P7 : oF12 Z h0 aL (.int mc)) (P8 : n0 ≤ aL) :
   own_Met l own_y31 kc17 2 (some .boolean) ws own_r21 #[(.ref aL), (.ref aS)] Z h0 (Q14 Z aL aS aD kD mc h0 n0) := by
 refine own_bd #[vR aL, vR aS] (plainFor_of_name pn_0) fun p e s m below meth c s₁ hx hby hml hrt hlk hZ hown hnm X0 e0 => ?_
 have N0 := Fr.nil n0
 refine o_al X0 hx hby q17_0 ?_
 refine o_dup X0 hx hby q17_1 ?_
 refine own_gF X0 hx hZ hown (own_w hw 181 rfl) (Via.of (own_w hw 182 rfl)) e0 P7 (hb hby q17_2) fun T1 X1 e1 => ?_
 refine o_ic X1 hx hby 1 q17_5 ?_
 refine o_iadd X1 hx hby q17_6 ?_
 refine o_pF X1 hx hZ hown hby (own_w hw 181 rfl) (Via.of (own_w hw 182 rfl)) e1 P7 P0 (Or.inl (own_w hw 62 rfl)) (own_w hw 43 rfl) ft_1 q17_7 fun T2 h2 X2 e2 W2 => ?_
 have N2 := Fr.snoc X2 N0 P8
 have Fw2 := P7.same W2
 have f3 := P0.wr W2
 have f4 := P1.wr W2
 have f5 := P2.wr W2 P8
 have f6 := P5.other W2 (Or.inr (sn_4 hw))
 have f7 := P6.other W2 (Or.inr (sn_5 hw))
 have K8 := (Keep.refl h0 [aL]).wr W2 (ow 0 rfl)
 have z9 := Nat.le_trans Z0 (Keep.of_wr W2).1
 refine o_al X2 hx hby q17_10 ?_
 refine o_al X2 hx hby q17_11 ?_
 refine o_al X2 hx hby q17_12 ?_
 refine o_g X2 hx hZ hown hw hby e2 f6 64 q17_13 fun T10 X10 e10 => ?_
 refine o_al X10 hx hby q17_16 ?_
 refine o_g X10 hx hZ hown hw hby e10 f7 171 q17_17 fun T11 X11 e11 => ?_
 obtain ⟨cq12, q12, q12'⟩ := f3.cell
 obtain ⟨vr12, _, ⟨T12, L12, k12, n12⟩, -, X12, ⟨Lc12, hQ12, l12, y12, z12⟩, st12⟩ := X11.privateBack hx (y := own_y32) hown (mvT hZ (own_w hw 183 rfl)) (mvT hZ (own_w hw 184 rfl)) (mvT hZ (own_w hw 186 rfl)) (Cond.privateMethod_at (mvP hZ (own_w hw 185 rfl) (args := #[]))) (mvT hZ (own_w hw 187 rfl)) (by decide) (backOf (W := 0) (rm12 l Z a0 hw [] aL aS aD kD (mc + (1 : Int32)) h2 n0 z9 f3 f4 f5 P3 P4 f6 f7 Fw2 P8) hZ (own_w hw 187 rfl) (own_w hw 44 rfl) (by decide) (by decide)) (g := (mkF m 20 #[vR aL, vR aS] [(.int 0), (.ref aD), (.ref aS), (.ref aL)])) rfl (by rw [hml]; rfl) (Steps.refl _) (a := aL) (by rw [e11]; exact q12) q12' (argsL := [(.ref aS), (.ref aD), (.int 0)]) (rest := []) (lenOf pd_5 rfl) rfl own_2z (hb hby q17_20) (fun _ _ => ⟨rfl, e11, (by decide : 0 + 1 ≤ _), (by decide : 0 + 10 ≤ _)⟩)
 dsimp only [Pt.U, Pt.locs, Pt.cells, Pt.slots] at X12 l12 y12 z12 st12 hQ12
 subst l12 y12 z12
 obtain ⟨aA13, gq14, rfl, Nq12, Kq12, p12_0, p12_1, p12_2, p12_3, p12_4, p12_5⟩ := hQ12
 have N12 := Fr.app N2 Nq12
 have ne15 : aL ≠ aA13 := Nat.ne_of_lt (Nat.lt_of_lt_of_le f3.lt p12_0)
 have ne16 : aS ≠ aA13 := Nat.ne_of_lt (Nat.lt_of_lt_of_le f4.lt p12_0)
 have ne17 : aD ≠ aA13 := Nat.ne_of_lt (Nat.lt_of_lt_of_le (P4.ext f5.2).lt p12_0)
 have ge18 : n0 ≤ aA13 := Nat.le_trans z9 p12_0
 have sz19 : h0.size ≤ aA13 := Nat.le_trans K8.1 p12_0
 have f20 := f3.keep Kq12
 have f21 := f4.keep Kq12
 have f22 := f5.keep Kq12 (allS P8 all0)
 have K23 := own_ktr K8 Kq12
 have z24 := Nat.le_trans z9 Kq12.1
 refine oS (fun _ κ => st12.trans κ) ?_
 show oG _ _ _ _ (T12.setTop (mkF m 23 #[vR aL, vR aS] []))
 refine o_ic X12 hx hby 1 q17_23 ?_
 exact o_rZ X12 hx hby hrt hlk q17_24 ⟨aA13, gq14, rfl, N12, K23, sz19, p12_1, p12_2, p12_3, p12_4, p12_5⟩
def Q15 (Z : State) (aL aS aA : Addr) (g : Nat → Value) (mc : Int32) (h0 : Heap) (n0 : Nat) (v : Option Value) (h : Heap) (L : List Loc) : Prop := ∃ gq : Nat → Value, v = some (.int 1) ∧ Fr n0 L ∧ Keep h0 h [aL, aA] ∧ (oF10 Z h aL (.ref aA)) ∧ (oF11 Z h aL (.int 1)) ∧ (oF12 Z h aL (.int (mc + (1 : Int32)))) ∧ (own_RO Z h aA (10 : Int32) gq) ∧ (gq (0 : Int32).toNatClampNeg = .ref aS)
set_option maxRecDepth 65536 in
set_option maxHeartbeats 40000000 in
theorem rm15 (l Z a0) (hw : oW a0 Z) (ws) (aL aS aA : Addr) (g : Nat → Value) (mc : Int32) (h0 : Heap) (n0 : Nat) (Z0 : n0 ≤ h0.size) (P0 : oX4 Z h0 aL) (P1 : oX3 Z h0 aS) (P2 : oF11 Z h0 aL (.int 0)) (P3 : oF10 Z h0 aL (.ref aA)) (P4 : oF12 Z h0 aL (.int mc)) (P5 : own_RO Z h0 aA (10 : Int32) g) (P6 : n0 ≤ aL) (P7 : n0 ≤ aA) :
   own_Met l own_y31 kc17 2 (some .boolean) ws own_r4 #[(.ref aL), (.ref aS)] Z h0 (Q15 Z aL aS aA g mc h0 n0) := by
 refine own_bd #[vR aL, vR aS] (plainFor_of_name pn_0) fun p e s m below meth c s₁ hx hby hml hrt hlk hZ hown hnm X0 e0 => ?_
 have N0 := Fr.nil n0
 refine o_al X0 hx hby q17_0 ?_
 refine o_dup X0 hx hby q17_1 ?_
 refine own_gF X0 hx hZ hown (own_w hw 181 rfl) (Via.of (own_w hw 182 rfl)) e0 P4 (hb hby q17_2) fun T1 X1 e1 => ?_
 refine o_ic X1 hx hby 1 q17_5 ?_
 refine o_iadd X1 hx hby q17_6 ?_
 refine o_pF X1 hx hZ hown hby (own_w hw 181 rfl) (Via.of (own_w hw 182 rfl)) e1 P4 P0 (Or.inl (own_w hw 62 rfl)) (own_w hw 43 rfl) ft_1 q17_7 fun T2 h2 X2 e2 W2 => ?_
 have N2 := Fr.snoc X2 N0 P6
 have Fw2 := P4.same W2
 have f3 := P0.wr W2
 have f4 := P1.wr W2
 have f5 := P2.other W2 (Or.inr (sn_5 hw))
 have f6 := P3.other W2 (Or.inr (sn_4 hw))
 have ne7 := own_neE P5.exa P0 ns_0
 have f8 := P5.other W2 ne7
 have K9 := (Keep.refl h0 [aL, aA]).wr W2 (ow 0 rfl)
 have z10 := Nat.le_trans Z0 (Keep.of_wr W2).1
 refine o_al X2 hx hby q17_10 ?_
 refine o_al X2 hx hby q17_11 ?_
 refine o_al X2 hx hby q17_12 ?_
 refine o_g X2 hx hZ hown hw hby e2 f6 64 q17_13 fun T11 X11 e11 => ?_
 refine o_al X11 hx hby q17_16 ?_
 refine o_g X11 hx hZ hown hw hby e11 f5 171 q17_17 fun T12 X12 e12 => ?_
 obtain ⟨cq13, q13, q13'⟩ := f3.cell
 obtain ⟨vr13, _, ⟨T13, L13, k13, n13⟩, -, X13, ⟨Lc13, hQ13, l13, y13, z13⟩, st13⟩ := X12.privateBack hx (y := own_y32) hown (mvT hZ (own_w hw 183 rfl)) (mvT hZ (own_w hw 184 rfl)) (mvT hZ (own_w hw 186 rfl)) (Cond.privateMethod_at (mvP hZ (own_w hw 185 rfl) (args := #[]))) (mvT hZ (own_w hw 187 rfl)) (by decide) (backOf (W := 0) (rm13 l Z a0 hw [] aL aS aA g (mc + (1 : Int32)) h2 n0 z10 f3 f4 f5 f6 Fw2 f8 P6 P7) hZ (own_w hw 187 rfl) (own_w hw 44 rfl) (by decide) (by decide)) (g := (mkF m 20 #[vR aL, vR aS] [(.int 0), (.ref aA), (.ref aS), (.ref aL)])) rfl (by rw [hml]; rfl) (Steps.refl _) (a := aL) (by rw [e12]; exact q13) q13' (argsL := [(.ref aS), (.ref aA), (.int 0)]) (rest := []) (lenOf pd_5 rfl) rfl own_2z (hb hby q17_20) (fun _ _ => ⟨rfl, e12, (by decide : 0 + 0 ≤ _), (by decide : 0 + 0 ≤ _)⟩)
 dsimp only [Pt.U, Pt.locs, Pt.cells, Pt.slots] at X13 l13 y13 z13 st13 hQ13
 subst l13 y13 z13
 obtain ⟨gq14, rfl, Nq13, Kq13, p13_0, p13_1, p13_2, p13_3, p13_4⟩ := hQ13
 have N13 := Fr.app N2 Nq13
 have f15 := f3.keep Kq13
 have f16 := f4.keep Kq13
 have K17 := own_ktr K9 Kq13
 have z18 := Nat.le_trans z10 Kq13.1
 refine oS (fun _ κ => st13.trans κ) ?_
 show oG _ _ _ _ (T13.setTop (mkF m 23 #[vR aL, vR aS] []))
 refine o_ic X13 hx hby 1 q17_23 ?_
 exact o_rZ X13 hx hby hrt hlk q17_24 ⟨gq14, rfl, N13, K17, p13_0, p13_1, p13_2, p13_3, p13_4⟩
def Q16 (Z : State) (aL aA : Addr) (g : Nat → Value) (mc : Int32) (h0 : Heap) (n0 : Nat) (v : Option Value) (h : Heap) (L : List Loc) : Prop := ∃ gq : Nat → Value, v = none ∧ Fr n0 L ∧ Keep h0 h [aL, aA] ∧ (oF10 Z h aL (.ref aA)) ∧ (oF11 Z h aL (.int 0)) ∧ (oF12 Z h aL (.int (mc + (1 : Int32)))) ∧ (own_RO Z h aA (10 : Int32) gq)
set_option maxRecDepth 65536 in
set_option maxHeartbeats 40000000 in
theorem rm16 (l Z a0) (hw : oW a0 Z) (ws) (aL aA : Addr) (g : Nat → Value) (mc : Int32) (h0 : Heap) (n0 : Nat) (Z0 : n0 ≤ h0.size) (P0 : oX4 Z h0 aL) (P1 : oF11 Z h0 aL (.int 1)) (P2 : oF10 Z h0 aL (.ref aA)) (P3 : oF12 Z h0 aL (.int mc)) (P4 : own_RO Z h0 aA (10 : Int32) g) (P5 : n0 ≤ aL) (P6 : n0 ≤ aA) :
   own_Met l own_y34 kc25 4 none ws own_r0 #[(.ref aL), (.ref aA), (.int 0)] Z h0 (Q16 Z aL aA g mc h0 n0) := by
 refine own_bd #[vR aL, vR aA, vI 0, .unset] (plainFor_of_name pn_0) fun p e s m below meth c s₁ hx hby hml hrt hlk hZ hown hnm X0 e0 => ?_
 have N0 := Fr.nil n0
 refine o_al X0 hx hby q25_0 ?_
 refine o_dup X0 hx hby q25_1 ?_
 refine own_gF X0 hx hZ hown (own_w hw 181 rfl) (Via.of (own_w hw 182 rfl)) e0 P3 (hb hby q25_2) fun T1 X1 e1 => ?_
 refine o_ic X1 hx hby 1 q25_5 ?_
 refine o_iadd X1 hx hby q25_6 ?_
 refine o_pF X1 hx hZ hown hby (own_w hw 181 rfl) (Via.of (own_w hw 182 rfl)) e1 P3 P0 (Or.inl (own_w hw 62 rfl)) (own_w hw 43 rfl) ft_1 q25_7 fun T2 h2 X2 e2 W2 => ?_
 have N2 := Fr.snoc X2 N0 P5
 have Fw2 := P3.same W2
 have f3 := P0.wr W2
 have f4 := P1.other W2 (Or.inr (sn_5 hw))
 have f5 := P2.other W2 (Or.inr (sn_4 hw))
 have ne6 := own_neE P4.exa P0 ns_0
 have f7 := P4.other W2 ne6
 have K8 := (Keep.refl h0 [aL, aA]).wr W2 (ow 0 rfl)
 have z9 := Nat.le_trans Z0 (Keep.of_wr W2).1
 refine o_al X2 hx hby q25_10 ?_
 refine o_g X2 hx hZ hown hw hby e2 f4 171 q25_11 fun T10 X10 e10 => ?_
 refine o_ic X10 hx hby 1 q25_14 ?_
 refine o_isub X10 hx hby q25_15 ?_
 rw [show (((1 : Int32) - (1 : Int32)) : Int32) = (0 : Int32) from by decide]
 refine o_dup X10 hx hby q25_16 ?_
 refine o_is X10 hx hby q25_17 #[vR aL, vR aA, vI 0, vI 0] ?_
 refine o_il X10 hx hby q25_18 ?_
 refine o_cy X10 hx hby q25_19 34 ((flt (by decide)).2.2.2) ?_
 refine o_al X10 hx hby q25_34 ?_
 refine o_al X10 hx hby q25_35 ?_
 refine o_il X10 hx hby q25_36 ?_
 refine oS (fun _ κ => XS.dupX1 X10.here hx rfl (hb hby q25_37) rfl rfl rfl κ) ?_
 show oG _ _ _ _ (T10.setTop (mkF m 38 #[vR aL, vR aA, vI 0, vI 0] [(.int 0), (.ref aL), (.int 0), (.ref aA)]))
 refine o_pF X10 hx hZ hown hby (own_w hw 171 rfl) Via.refl e10 f4 f3 (Or.inl (own_w hw 172 rfl)) (own_w hw 43 rfl) ft_1 q25_38 fun T11 h11 X11 e11 W11 => ?_
 have N11 := Fr.snoc X11 N2 P5
 have Fw11 := f4.same W11
 have f12 := f3.wr W11
 have f13 := f5.other W11 (Or.inr (sn_2 hw))
 have f14 := f7.other W11 ne6
 have f15 := Fw2.other W11 (Or.inr (sn_3 hw))
 have K16 := K8.wr W11 (ow 0 rfl)
 have z17 := Nat.le_trans z9 (Keep.of_wr W11).1
 refine o_an X11 hx hby q25_41 ?_
 obtain ⟨cl18, Ar18, Sz18, Nz18, Ov18, -⟩ := f14.opened
 have hin18 := inb_of (j := (0 : Int32)) Sz18 ⟨by decide, by decide⟩
 obtain ⟨T18, h18, X18, e18, W18, st18⟩ := stR X11 hx hZ e11 Ar18 (j := (0 : Int32)) (v := .null) hin18 rfl (Or.inl rfl) (g := (mkF m 42 #[vR aL, vR aA, vI 0, vI 0] [.null, (.int 0), (.ref aA)])) rfl rfl (hb hby q25_42)
 refine oS st18 ?_
 have N18 := Fr.snoc X18 N11 P6
 have V18 : own_RO Z h18 aA (10 : Int32) (own_updV g (0 : Int32).toNatClampNeg .null) := f14.set W18 ⟨by decide, by decide⟩ rfl
 have f19 := f12.wr W18
 have f20 := f13.other W18 (Or.inl (Ne.symm ne6))
 have f21 := f15.other W18 (Or.inl (Ne.symm ne6))
 have f22 := Fw11.other W18 (Or.inl (Ne.symm ne6))
 have K23 := K16.wr W18 (ow 1 rfl)
 have z24 := Nat.le_trans z17 (Keep.of_wr W18).1
 show oG _ _ _ _ (T18.setTop (mkF m 43 #[vR aL, vR aA, vI 0, vI 0] []))
 exact o_rv X18 hx hby hrt hlk q25_43 (by rw [e18]; exact ⟨(own_updV g (0 : Int32).toNatClampNeg .null), rfl, N18, K23, f20, f22, f21, V18⟩)
def Q17 (Z : State) (aL aA : Addr) (g : Nat → Value) (mc : Int32) (aS : Addr) (h0 : Heap) (n0 : Nat) (v : Option Value) (h : Heap) (L : List Loc) : Prop := ∃ gq : Nat → Value, v = some (.ref aS) ∧ Fr n0 L ∧ Keep h0 h [aL, aA] ∧ (oF10 Z h aL (.ref aA)) ∧ (oF11 Z h aL (.int 0)) ∧ (oF12 Z h aL (.int (mc + (1 : Int32)))) ∧ (own_RO Z h aA (10 : Int32) gq)
set_option maxRecDepth 65536 in
set_option maxHeartbeats 40000000 in
theorem rm17 (l Z a0) (hw : oW a0 Z) (ws) (aL aA : Addr) (g : Nat → Value) (mc : Int32) (aS : Addr) (h0 : Heap) (n0 : Nat) (Z0 : n0 ≤ h0.size) (P0 : oX4 Z h0 aL) (P1 : oF11 Z h0 aL (.int 1)) (P2 : oF10 Z h0 aL (.ref aA)) (P3 : oF12 Z h0 aL (.int mc)) (P4 : own_RO Z h0 aA (10 : Int32) g) (P5 : g (0 : Int32).toNatClampNeg = .ref aS) (P6 : n0 ≤ aL) (P7 : n0 ≤ aA) :
   own_Met l own_y39 kc4 4 (some (.object "java/lang/Object")) ws own_r9 #[(.ref aL), (.int 0)] Z h0 (Q17 Z aL aA g mc aS h0 n0) := by
 refine own_bd #[vR aL, vI 0, .unset, .unset] (plainFor_of_name pn_0) fun p e s m below meth c s₁ hx hby hml hrt hlk hZ hown hnm X0 e0 => ?_
 have N0 := Fr.nil n0
 refine o_il X0 hx hby q4_0 ?_
 refine o_al X0 hx hby q4_1 ?_
 refine o_g X0 hx hZ hown hw hby e0 P1 171 q4_2 fun T1 X1 e1 => ?_
 refine o_cS X1 hx hZ hown hw hml hby (rm6 l Z a0 hw []   h0 n0 Z0 ) e1 221 222 223 224 0 q4_5 [(.int 0), (.int 1)] [] pd_1 hy_1 fun v2 T2 L2 hQ2 X2 => ?_
 obtain ⟨rfl, Nq2, eq2⟩ := hQ2
 have N2 := Fr.app N0 Nq2
 refine oV ?_
 refine o_pop X2 hx hby q4_8 ?_
 refine o_al X2 hx hby q4_9 ?_
 refine o_g X2 hx hZ hown hw hby eq2 P2 64 q4_10 fun T3 X3 e3 => ?_
 refine o_as X3 hx hby q4_13 #[vR aL, vI 0, vR aA, .unset] ?_
 refine o_al X3 hx hby q4_14 ?_
 refine o_il X3 hx hby q4_15 ?_
 refine o_aa (v := (.ref aS)) X3 hx hZ hby e3 P4 q4_16 ⟨by decide, by decide⟩ P5 ?_
 refine o_as X3 hx hby q4_17 #[vR aL, vI 0, vR aA, vR aS] ?_
 refine o_al X3 hx hby q4_18 ?_
 refine o_al X3 hx hby q4_19 ?_
 refine o_il X3 hx hby q4_20 ?_
 obtain ⟨cq5, q5, q5'⟩ := P0.cell
 obtain ⟨vr5, _, ⟨T5, L5, k5, n5⟩, -, X5, ⟨Lc5, hQ5, l5, y5, z5⟩, st5⟩ := X3.privateBack hx (y := own_y34) hown (mvT hZ (own_w hw 284 rfl)) (mvT hZ (own_w hw 285 rfl)) (mvT hZ (own_w hw 287 rfl)) (Cond.privateMethod_at (mvP hZ (own_w hw 286 rfl) (args := #[]))) (mvT hZ (own_w hw 288 rfl)) (by decide) (backOf (W := 0) (rm16 l Z a0 hw [] aL aA g mc h0 n0 Z0 P0 P1 P2 P3 P4 P6 P7) hZ (own_w hw 288 rfl) (own_w hw 44 rfl) (by decide) (by decide)) (g := (mkF m 21 #[vR aL, vI 0, vR aA, vR aS] [(.int 0), (.ref aA), (.ref aL)])) rfl (by rw [hml]; rfl) (Steps.refl _) (a := aL) (by rw [e3]; exact q5) q5' (argsL := [(.ref aA), (.int 0)]) (rest := []) (lenOf pd_6 rfl) rfl own_2z (hb hby q4_21) (fun _ _ => ⟨rfl, e3, (by decide : 0 + 0 ≤ _), (by decide : 0 + 0 ≤ _)⟩)
 dsimp only [Pt.U, Pt.locs, Pt.cells, Pt.slots] at X5 l5 y5 z5 st5 hQ5
 subst l5 y5 z5
 obtain ⟨gq6, rfl, Nq5, Kq5, p5_0, p5_1, p5_2, p5_3⟩ := hQ5
 have N5 := Fr.app N2 Nq5
 have f7 := P0.keep Kq5
 have K8 := own_ktr (Keep.refl h0 [aL, aA]) Kq5
 have z9 := Nat.le_trans Z0 Kq5.1
 refine oS (fun _ κ => st5.trans κ) ?_
 show oG _ _ _ _ (T5.setTop (mkF m 24 #[vR aL, vI 0, vR aA, vR aS] []))
 refine o_al X5 hx hby q4_24 ?_
 exact o_rA X5 hx hby hrt hlk q4_25 ⟨gq6, rfl, N5, K8, p5_0, p5_1, p5_2, p5_3⟩
def Q18 (Z : State) (aL : Addr) (h0 : Heap) (n0 : Nat) (v : Option Value) (h : Heap) (L : List Loc) : Prop := v = none ∧ Fr n0 L ∧ h = h0
set_option maxRecDepth 65536 in
set_option maxHeartbeats 40000000 in
theorem rm18 (l Z a0) (hw : oW a0 Z) (ws) (aL : Addr) (h0 : Heap) (n0 : Nat) (Z0 : n0 ≤ h0.size)  :
   own_Met l own_y28 kc37 1 none ws own_r2 #[(.ref aL)] Z h0 (Q18 Z aL  h0 n0) := by
 refine own_bd #[vR aL] (plainFor_of_name pn_3) fun p e s m below meth c s₁ hx hby hml hrt hlk hZ hown hnm X0 e0 => ?_
 have N0 := Fr.nil n0
 refine o_al X0 hx hby q37_0 ?_
 obtain ⟨T1, X1, e1, st1⟩ := initO X0 hx hZ hown (own_w hw 60 rfl) (own_w hw 14 rfl) (own_w hw 15 rfl) e0 (g := (mkF m 1 #[vR aL] [(.ref aL)])) rfl (by rw [hml]; rfl) rfl (hb hby q37_1) (by decide) (W := 0) own_2z (by decide)
 refine oS st1 ?_
 show oG _ _ _ _ (T1.setTop (mkF m 4 #[vR aL] []))
 exact o_rv X1 hx hby hrt hlk q37_4 (by rw [e1]; exact ⟨rfl, N0, rfl⟩)
def Q19 (Z : State) (aL : Addr) (h0 : Heap) (n0 : Nat) (v : Option Value) (h : Heap) (L : List Loc) : Prop := v = none ∧ Fr n0 L ∧ Keep h0 h [aL] ∧ (oF12 Z h aL (.int 0)) ∧ (oF10 Z h aL .null) ∧ (oF11 Z h aL (.int 0))
set_option maxRecDepth 65536 in
set_option maxHeartbeats 40000000 in
theorem rm19 (l Z a0) (hw : oW a0 Z) (ws) (aL : Addr) (h0 : Heap) (n0 : Nat) (Z0 : n0 ≤ h0.size) (P0 : oX4 Z h0 aL) (P1 : oF12 Z h0 aL (.int 0)) (P2 : oF10 Z h0 aL .null) (P3 : oF11 Z h0 aL (.int 0)) (P4 : n0 ≤ aL) :
   own_Met l own_y29 kc41 1 none ws own_r8 #[(.ref aL)] Z h0 (Q19 Z aL  h0 n0) := by
 refine own_bd #[vR aL] (plainFor_of_name pn_4) fun p e s m below meth c s₁ hx hby hml hrt hlk hZ hown hnm X0 e0 => ?_
 have N0 := Fr.nil n0
 refine o_al X0 hx hby q41_0 ?_
 refine o_cK X0 hx hZ hown hw hml hby (rm18 l Z a0 hw [] aL  h0 n0 Z0 ) rfl e0 54 55 59 58 0 q41_1 [] [] pd_7 hy_4 fun v1 T1 L1 hQ1 X1 => ?_
 obtain ⟨rfl, Nq1, eq1⟩ := hQ1
 have N1 := Fr.app N0 Nq1
 refine oN ?_
 refine o_al X1 hx hby q41_4 ?_
 refine o_ic X1 hx hby 0 q41_5 ?_
 refine o_pF X1 hx hZ hown hby (own_w hw 61 rfl) Via.refl eq1 P1 P0 (Or.inl (own_w hw 62 rfl)) (own_w hw 43 rfl) ft_1 q41_6 fun T2 h2 X2 e2 W2 => ?_
 have N2 := Fr.snoc X2 N1 P4
 have Fw2 := P1.same W2
 have f3 := P0.wr W2
 have f4 := P2.other W2 (Or.inr (sn_4 hw))
 have f5 := P3.other W2 (Or.inr (sn_5 hw))
 have K6 := (Keep.refl h0 [aL]).wr W2 (ow 0 rfl)
 have z7 := Nat.le_trans Z0 (Keep.of_wr W2).1
 exact o_rv X2 hx hby hrt hlk q41_9 (by rw [e2]; exact ⟨rfl, N2, K6, Fw2, f4, f5⟩)
def Q20 (Z : State) (aL aD : Addr) (h0 : Heap) (n0 : Nat) (v : Option Value) (h : Heap) (L : List Loc) : Prop := v = none ∧ Fr n0 L ∧ Keep h0 h [aL] ∧ (oF10 Z h aL (.ref aD)) ∧ (oF12 Z h aL (.int 0)) ∧ (oF11 Z h aL (.int 0))
set_option maxRecDepth 65536 in
set_option maxHeartbeats 40000000 in
theorem rm20 (l Z a0) (hw : oW a0 Z) (ws) (aL aD : Addr) (h0 : Heap) (n0 : Nat) (Z0 : n0 ≤ h0.size) (P0 : oX4 Z h0 aL) (P1 : Old Z n0 h0) (P2 : Sta Z Z.heap "java/util/ArrayList" "DEFAULTCAPACITY_EMPTY_ELEMENTDATA" "[Ljava/lang/Object;" (.ref aD)) (P3 : oF10 Z h0 aL .null) (P4 : oF12 Z h0 aL (.int 0)) (P5 : oF11 Z h0 aL (.int 0)) (P6 : n0 ≤ aL) :
   own_Met l own_y30 kc36 1 none ws own_r13 #[(.ref aL)] Z h0 (Q20 Z aL aD h0 n0) := by
 refine own_bd #[vR aL] (plainFor_of_name pn_0) fun p e s m below meth c s₁ hx hby hml hrt hlk hZ hown hnm X0 e0 => ?_
 have N0 := Fr.nil n0
 refine o_al X0 hx hby q36_0 ?_
 refine o_cK X0 hx hZ hown hw hml hby (rm19 l Z a0 hw [] aL  h0 n0 Z0 P0 P4 P3 P5 P6) rfl e0 48 49 53 52 0 q36_1 [] [] pd_7 hy_5 fun v1 T1 L1 hQ1 X1 => ?_
 obtain ⟨rfl, Nq1, Kq1, p1_0, p1_1, p1_2⟩ := hQ1
 have N1 := Fr.app N0 Nq1
 have f2 := P0.keep Kq1
 have f3 := P1.keep Kq1 (allS P6 all0)
 have K4 := own_ktr (Keep.refl h0 [aL]) Kq1
 have z5 := Nat.le_trans Z0 Kq1.1
 refine oN ?_
 refine o_al X1 hx hby q36_4 ?_
 obtain ⟨T6, X6, e6, st6⟩ := getS2 X1 hx hZ hown (host := "") (Or.inl (own_w hw 63 rfl)) Via.refl rfl (P2.ext f3.2) (g := (mkF m 5 #[vR aL] [(.ref aL)])) rfl (hb hby q36_5)
 refine oS st6 ?_
 show oG _ _ _ _ (T6.setTop (mkF m 8 #[vR aL] [(.ref aD), (.ref aL)]))
 refine o_pF X6 hx hZ hown hby (own_w hw 64 rfl) Via.refl e6 p1_1 f2 (Or.inl (own_w hw 65 rfl)) (own_w hw 43 rfl) ft_0 q36_8 fun T7 h7 X7 e7 W7 => ?_
 have N7 := Fr.snoc X7 N1 P6
 have Fw7 := p1_1.same W7
 have f8 := f2.wr W7
 have f9 := f3.wr W7 P6
 have f10 := p1_0.other W7 (Or.inr (sn_1 hw))
 have f11 := p1_2.other W7 (Or.inr (sn_0 hw))
 have K12 := K4.wr W7 (ow 0 rfl)
 have z13 := Nat.le_trans z5 (Keep.of_wr W7).1
 exact o_rv X7 hx hby hrt hlk q36_11 (by rw [e7]; exact ⟨rfl, N7, K12, Fw7, f10, f11⟩)
def Q21 (Z : State) (aR aS : Addr) (aL aA : Addr) (g : Nat → Value) (sl : Int32) (hv md : Int64) (h0 : Heap) (n0 : Nat) (v : Option Value) (h : Heap) (L : List Loc) : Prop := ∃ gq : Nat → Value, v = none ∧ Fr n0 L ∧ Keep h0 h [aS, aA] ∧ (oF9 Z h aS (.int 0)) ∧ (oF7 Z h aS (.long hv)) ∧ (oF8 Z h aS (.long md)) ∧ (oF6 Z h aS (.ref aR)) ∧ (own_RO Z h aA (10 : Int32) gq) ∧ (gq (0 : Int32).toNatClampNeg = .ref aS)
set_option maxRecDepth 65536 in
set_option maxHeartbeats 40000000 in
theorem rm21 (l Z a0) (hw : oW a0 Z) (ws) (aR aS : Addr) (aL aA : Addr) (g : Nat → Value) (sl : Int32) (hv md : Int64) (h0 : Heap) (n0 : Nat) (Z0 : n0 ≤ h0.size) (P0 : oX3 Z h0 aS) (P1 : oF3 Z h0 aR (.ref aL)) (P2 : oF9 Z h0 aS (.int sl)) (P3 : oF7 Z h0 aS (.long hv)) (P4 : oF8 Z h0 aS (.long md)) (P5 : oF6 Z h0 aS (.ref aR)) (P6 : oX4 Z h0 aL) (P7 : oF10 Z h0 aL (.ref aA)) (P8 : oF11 Z h0 aL (.int 1)) (P9 : own_RO Z h0 aA (10 : Int32) g) (P10 : g (0 : Int32).toNatClampNeg = .ref aS) (P11 : n0 ≤ aS) (P12 : n0 ≤ aA) :
   own_Met l own_y8 kc1 3 none ws own_r15 #[(.ref aR), (.ref aS), (.int 0)] Z h0 (Q21 Z aR aS aL aA g sl hv md h0 n0) := by
 refine own_bd #[vR aR, vR aS, vI 0] (plainFor_of_name pn_5) fun p e s m below meth c s₁ hx hby hml hrt hlk hZ hown hnm X0 e0 => ?_
 have N0 := Fr.nil n0
 refine o_al X0 hx hby q1_0 ?_
 refine o_g X0 hx hZ hown hw hby e0 P1 66 q1_1 fun T1 X1 e1 => ?_
 refine o_il X1 hx hby q1_4 ?_
 refine o_al X1 hx hby q1_5 ?_
 refine o_cI (x := own_y46) X1 hx hZ hown hw hml hby (rm9 l Z a0 hw [] aL aS aA g h0 n0 Z0 P6 P0 P7 P8 P9 P10 P12) P6 e1 213 214 215 216 217 218 219 169 220 44 0 q1_6 [(.int 0), (.ref aS)] [] pd_8 hy_6 fun v2 T2 L2 hQ2 X2 => ?_
 obtain ⟨gq3, rfl, Nq2, Kq2, p2_0, p2_1⟩ := hQ2
 have N2 := Fr.app N0 Nq2
 have f4 := P0.keep Kq2
 have ne5 := own_neE P0 P9.exa (Ne.symm ns_1)
 have f6 := P2.keep Kq2 (ninS ne5 nin0)
 have f7 := P3.keep Kq2 (ninS ne5 nin0)
 have f8 := P4.keep Kq2 (ninS ne5 nin0)
 have f9 := P5.keep Kq2 (ninS ne5 nin0)
 have f10 := P6.keep Kq2
 have ne11 := own_neE P6 P9.exa (Ne.symm ns_0)
 have f12 := P7.keep Kq2 (ninS ne11 nin0)
 have f13 := P8.keep Kq2 (ninS ne11 nin0)
 have K14 := (Keep.refl h0 [aS, aA]).trans Kq2 (allS (ow 1 rfl) all0)
 have z15 := Nat.le_trans Z0 Kq2.1
 refine oV ?_
 refine o_pop X2 hx hby q1_11 ?_
 refine o_al X2 hx hby q1_12 ?_
 refine o_il X2 hx hby q1_13 ?_
 obtain ⟨T16, h16, X16, e16, W16, st16⟩ := own_putFR X2 hx hZ hown (own_w hw 161 rfl) rfl f6 f4 (own_w hw 102 rfl) (own_w hw 93 rfl) (ty := .int) ft_1 rfl rfl (g := (mkF m 14 #[vR aR, vR aS, vI 0] [(.int 0), (.ref aS)])) rfl rfl (hb hby q1_14)
 refine oS st16 ?_
 have N16 := Fr.snoc X16 N2 P11
 have Fw16 := f6.same W16
 have f17 := f4.wr W16
 have f18 := f7.other W16 (Or.inr (sn_6 hw))
 have f19 := f8.other W16 (Or.inr (sn_7 hw))
 have f20 := f9.other W16 (Or.inr (sn_8 hw))
 have f21 := f10.wr W16
 have ne22 := own_neE f10 f4 (Ne.symm ns_2)
 have f23 := f12.other W16 (Or.inl ne22)
 have f24 := f13.other W16 (Or.inl ne22)
 have f25 := p2_0.other W16 (Ne.symm ne5)
 have K26 := K14.wr W16 (ow 0 rfl)
 have z27 := Nat.le_trans z15 (Keep.of_wr W16).1
 show oG _ _ _ _ (T16.setTop (mkF m 17 #[vR aR, vR aS, vI 0] []))
 exact o_rv X16 hx hby hrt hlk q1_17 (by rw [e16]; exact ⟨gq3, rfl, N16, K26, Fw16, f18, f19, f20, f25, p2_1⟩)
def Q22 (Z : State) (aR aS : Addr) (aL aA : Addr) (g : Nat → Value) (hv md : Int64) (h0 : Heap) (n0 : Nat) (v : Option Value) (h : Heap) (L : List Loc) : Prop := ∃ gq : Nat → Value, v = none ∧ Fr n0 L ∧ Keep h0 h [aS, aA] ∧ (oF9 Z h aS (.int 0)) ∧ (oF7 Z h aS (.long hv)) ∧ (oF8 Z h aS (.long md)) ∧ (oF6 Z h aS (.ref aR)) ∧ (own_RO Z h aA (10 : Int32) gq) ∧ (gq (0 : Int32).toNatClampNeg = .ref aS)
set_option maxRecDepth 65536 in
set_option maxHeartbeats 40000000 in
theorem rm22 (l Z a0) (hw : oW a0 Z) (ws) (aR aS : Addr) (aL aA : Addr) (g : Nat → Value) (hv md : Int64) (h0 : Heap) (n0 : Nat) (Z0 : n0 ≤ h0.size) (P0 : oX2 Z h0 aR) (P1 : oX3 Z h0 aS) (P2 : oF3 Z h0 aR (.ref aL)) (P3 : oF9 Z h0 aS (.int 0)) (P4 : oF7 Z h0 aS (.long hv)) (P5 : oF8 Z h0 aS (.long md)) (P6 : oF6 Z h0 aS (.ref aR)) (P7 : oX4 Z h0 aL) (P8 : oF10 Z h0 aL (.ref aA)) (P9 : oF11 Z h0 aL (.int 1)) (P10 : own_RO Z h0 aA (10 : Int32) g) (P11 : g (0 : Int32).toNatClampNeg = .ref aS) (P12 : n0 ≤ aS) (P13 : n0 ≤ aA) :
   own_Met l own_y11 kc3 4 none ws own_r19 #[(.ref aR), (.ref aS)] Z h0 (Q22 Z aR aS aL aA g hv md h0 n0) := by
 refine own_bd #[vR aR, vR aS, .unset, .unset] (plainFor_of_name pn_5) fun p e s m below meth c s₁ hx hby hml hrt hlk hZ hown hnm X0 e0 => ?_
 have N0 := Fr.nil n0
 refine o_al X0 hx hby q3_0 ?_
 obtain ⟨T1, X1, e1, st1⟩ := own_getFR X0 hx hZ hown (own_w hw 161 rfl) e0 P3 (g := (mkF m 1 #[vR aR, vR aS, .unset, .unset] [(.ref aS)])) rfl rfl (hb hby q3_1)
 refine oS st1 ?_
 show oG _ _ _ _ (T1.setTop (mkF m 4 #[vR aR, vR aS, .unset, .unset] [(.int 0)]))
 refine o_is X1 hx hby q3_4 #[vR aR, vR aS, vI 0, .unset] ?_
 refine o_il X1 hx hby q3_5 ?_
 refine o_ic X1 hx hby 1 q3_6 ?_
 refine o_isub X1 hx hby q3_7 ?_
 rw [show (((0 : Int32) - (1 : Int32)) : Int32) = (-1 : Int32) from by decide]
 refine o_ic X1 hx hby 2 q3_8 ?_
 refine oS (fun _ κ => XS.idiv X1.here hx rfl (hb hby q3_9) rfl (by decide) κ) ?_
 show oG _ _ _ _ (T1.setTop (mkF m 10 #[vR aR, vR aS, vI 0, .unset] [(.int ((-1 : Int32) / (2 : Int32)))]))
 refine o_is X1 hx hby q3_10 #[vR aR, vR aS, vI 0, .val (.int ((-1 : Int32) / (2 : Int32)))] ?_
 refine o_il X1 hx hby q3_11 ?_
 refine o_iy X1 hx hby q3_12 65 ((if0 _ _).trans (flt (by decide)).2.2.2) ?_
 refine o_al X1 hx hby q3_65 ?_
 refine o_al X1 hx hby q3_66 ?_
 refine o_il X1 hx hby q3_67 ?_
 refine o_cP X1 hx hZ hown hw hml hby (rm21 l Z a0 hw [] aR aS aL aA g (0 : Int32) hv md h0 n0 Z0 P1 P2 P3 P4 P5 P6 P7 P8 P9 P10 P11 P12 P13) P0 e1 209 210 30 211 212 31 0 q3_68 [(.ref aS), (.int 0)] [] pd_9 hy_7 fun v2 T2 L2 hQ2 X2 => ?_
 obtain ⟨gq3, rfl, Nq2, Kq2, p2_0, p2_1, p2_2, p2_3, p2_4, p2_5⟩ := hQ2
 have N2 := Fr.app N0 Nq2
 have f4 := P0.keep Kq2
 have f5 := P1.keep Kq2
 have wx6 : own_exs Z _ [aS, aA] ocl_0 := ⟨P1, P10.exa, trivial⟩
 have ni7 := own_nin P0 wx6 nc_0
 have f8 := P2.keep Kq2 ni7
 have f9 := P7.keep Kq2
 have ni10 := own_nin P7 wx6 nc_1
 have f11 := P8.keep Kq2 ni10
 have f12 := P9.keep Kq2 ni10
 have K13 := own_ktr (Keep.refl h0 [aS, aA]) Kq2
 have z14 := Nat.le_trans Z0 Kq2.1
 refine oN ?_
 exact o_rv X2 hx hby hrt hlk q3_71 ⟨gq3, rfl, N2, K13, p2_0, p2_1, p2_2, p2_3, p2_4, p2_5⟩
def Q23 (Z : State) (aR aS : Addr) (aL aA : Addr) (g : Nat → Value) (hv md : Int64) (h0 : Heap) (n0 : Nat) (v : Option Value) (h : Heap) (L : List Loc) : Prop := ∃ gq : Nat → Value, v = none ∧ Fr n0 L ∧ Keep h0 h [aS, aA] ∧ (oF9 Z h aS (.int 0)) ∧ (oF7 Z h aS (.long hv)) ∧ (oF8 Z h aS (.long md)) ∧ (oF6 Z h aS (.ref aR)) ∧ (own_RO Z h aA (10 : Int32) gq) ∧ (gq (0 : Int32).toNatClampNeg = .ref aS)
set_option maxRecDepth 65536 in
set_option maxHeartbeats 40000000 in
theorem rm23 (l Z a0) (hw : oW a0 Z) (ws) (aR aS : Addr) (aL aA : Addr) (g : Nat → Value) (hv md : Int64) (h0 : Heap) (n0 : Nat) (Z0 : n0 ≤ h0.size) (P0 : oX2 Z h0 aR) (P1 : oX3 Z h0 aS) (P2 : oF3 Z h0 aR (.ref aL)) (P3 : oF9 Z h0 aS (.int 0)) (P4 : oF7 Z h0 aS (.long hv)) (P5 : oF8 Z h0 aS (.long md)) (P6 : oF6 Z h0 aS (.ref aR)) (P7 : oX4 Z h0 aL) (P8 : oF10 Z h0 aL (.ref aA)) (P9 : oF11 Z h0 aL (.int 1)) (P10 : own_RO Z h0 aA (10 : Int32) g) (P11 : g (0 : Int32).toNatClampNeg = .ref aS) (P12 : n0 ≤ aS) (P13 : n0 ≤ aA) :
   own_Met l own_y10 kc0 4 none ws own_r19 #[(.ref aR), (.ref aS)] Z h0 (Q23 Z aR aS aL aA g hv md h0 n0) := by
 refine own_bd #[vR aR, vR aS, .unset, .unset] (plainFor_of_name pn_5) fun p e s m below meth c s₁ hx hby hml hrt hlk hZ hown hnm X0 e0 => ?_
 have N0 := Fr.nil n0
 refine o_al X0 hx hby q0_0 ?_
 obtain ⟨T1, X1, e1, st1⟩ := own_getFR X0 hx hZ hown (own_w hw 161 rfl) e0 P3 (g := (mkF m 1 #[vR aR, vR aS, .unset, .unset] [(.ref aS)])) rfl rfl (hb hby q0_1)
 refine oS st1 ?_
 show oG _ _ _ _ (T1.setTop (mkF m 4 #[vR aR, vR aS, .unset, .unset] [(.int 0)]))
 refine o_is X1 hx hby q0_4 #[vR aR, vR aS, vI 0, .unset] ?_
 refine o_ic X1 hx hby 2 q0_5 ?_
 refine o_il X1 hx hby q0_6 ?_
 refine o_imul X1 hx hby q0_7 ?_
 rw [show (((2 : Int32) * (0 : Int32)) : Int32) = (0 : Int32) from by decide]
 refine o_ic X1 hx hby 1 q0_8 ?_
 refine o_iadd X1 hx hby q0_9 ?_
 rw [show (((0 : Int32) + (1 : Int32)) : Int32) = (1 : Int32) from by decide]
 refine o_is X1 hx hby q0_10 #[vR aR, vR aS, vI 0, vI 1] ?_
 refine o_il X1 hx hby q0_11 ?_
 refine o_al X1 hx hby q0_12 ?_
 refine o_g X1 hx hZ hown hw hby e1 P2 66 q0_13 fun T2 X2 e2 => ?_
 refine o_cI (x := own_y47) X2 hx hZ hown hw hml hby (rm2 l Z a0 hw [] aL (1 : Int32) h0 n0 Z0 P9) P7 e2 162 163 164 165 166 167 168 169 170 44 1 q0_16 [] [(.int 1)] pd_10 hy_6 fun v3 T3 L3 hQ3 X3 => ?_
 obtain ⟨rfl, Nq3, eq3⟩ := hQ3
 have N3 := Fr.app N0 Nq3
 refine oV ?_
 refine o_cy X3 hx hby q0_21 130 ((flt (by decide)).2.1) ?_
 refine o_al X3 hx hby q0_130 ?_
 refine o_al X3 hx hby q0_131 ?_
 refine o_il X3 hx hby q0_132 ?_
 refine o_cP X3 hx hZ hown hw hml hby (rm21 l Z a0 hw [] aR aS aL aA g (0 : Int32) hv md h0 n0 Z0 P1 P2 P3 P4 P5 P6 P7 P8 P9 P10 P11 P12 P13) P0 eq3 209 210 30 211 212 31 0 q0_133 [(.ref aS), (.int 0)] [] pd_9 hy_7 fun v4 T4 L4 hQ4 X4 => ?_
 obtain ⟨gq5, rfl, Nq4, Kq4, p4_0, p4_1, p4_2, p4_3, p4_4, p4_5⟩ := hQ4
 have N4 := Fr.app N3 Nq4
 have f6 := P0.keep Kq4
 have f7 := P1.keep Kq4
 have wx8 : own_exs Z _ [aS, aA] ocl_0 := ⟨P1, P10.exa, trivial⟩
 have ni9 := own_nin P0 wx8 nc_0
 have f10 := P2.keep Kq4 ni9
 have f11 := P7.keep Kq4
 have ni12 := own_nin P7 wx8 nc_1
 have f13 := P8.keep Kq4 ni12
 have f14 := P9.keep Kq4 ni12
 have K15 := own_ktr (Keep.refl h0 [aS, aA]) Kq4
 have z16 := Nat.le_trans Z0 Kq4.1
 refine oN ?_
 exact o_rv X4 hx hby hrt hlk q0_136 ⟨gq5, rfl, N4, K15, p4_0, p4_1, p4_2, p4_3, p4_4, p4_5⟩
def Q24 (Z : State) (aR aS aL : Addr) (h0 : Heap) (n0 : Nat) (v : Option Value) (h : Heap) (L : List Loc) : Prop := v = some .null ∧ Fr n0 L ∧ h = h0
set_option maxRecDepth 65536 in
set_option maxHeartbeats 40000000 in
theorem rm24 (l Z a0) (hw : oW a0 Z) (ws) (aR aS aL : Addr) (h0 : Heap) (n0 : Nat) (Z0 : n0 ≤ h0.size) (P0 : oF3 Z h0 aR (.ref aL)) (P1 : oX4 Z h0 aL) (P2 : oF11 Z h0 aL (.int 0)) :
   own_Met l own_y5 kc24 5 (some (.object "com/example/lockstep/lockstep/session/FrameRoom$Share")) ws own_r2 #[(.ref aR), (.ref aS)] Z h0 (Q24 Z aR aS aL h0 n0) := by
 refine own_bd #[vR aR, vR aS, .unset, .unset, .unset] (plainFor_of_name pn_5) fun p e s m below meth c s₁ hx hby hml hrt hlk hZ hown hnm X0 e0 => ?_
 have N0 := Fr.nil n0
 refine o_al X0 hx hby q24_0 ?_
 refine o_g X0 hx hZ hown hw hby e0 P0 66 q24_1 fun T1 X1 e1 => ?_
 refine o_cI (x := own_y44) X1 hx hZ hown hw hml hby (rm3 l Z a0 hw [] aL  h0 n0 Z0 P2) P1 e1 294 295 296 297 298 299 300 169 301 44 0 q24_4 [] [] pd_11 hy_6 fun v2 T2 L2 hQ2 X2 => ?_
 obtain ⟨rfl, Nq2, eq2⟩ := hQ2
 have N2 := Fr.app N0 Nq2
 refine oV ?_
 refine o_in X2 hx hby q24_9 ((if0 _ _).trans (feq (by decide)).1) ?_
 refine o_an X2 hx hby q24_12 ?_
 refine o_gt X2 hx hby q24_13 29 ?_
 refine o_as X2 hx hby q24_29 #[vR aR, vR aS, .val .null, .unset, .unset] ?_
 refine o_al X2 hx hby q24_30 ?_
 refine o_al X2 hx hby q24_31 ?_
 refine o_ac X2 hx hby q24_32 120 false (decide_eq_false nofun) ?_
 refine o_al X2 hx hby q24_120 ?_
 exact o_rA X2 hx hby hrt hlk q24_121 (by rw [eq2]; exact ⟨rfl, N2, rfl⟩)
def Q25 (Z : State) (aR aS : Addr) (aL aA : Addr) (g : Nat → Value) (h0 : Heap) (n0 : Nat) (v : Option Value) (h : Heap) (L : List Loc) : Prop := v = some .null ∧ Fr n0 L ∧ h = h0
set_option maxRecDepth 65536 in
set_option maxHeartbeats 40000000 in
theorem rm25 (l Z a0) (hw : oW a0 Z) (ws) (aR aS : Addr) (aL aA : Addr) (g : Nat → Value) (h0 : Heap) (n0 : Nat) (Z0 : n0 ≤ h0.size) (P0 : oX3 Z h0 aS) (P1 : oF3 Z h0 aR (.ref aL)) (P2 : oX4 Z h0 aL) (P3 : oF10 Z h0 aL (.ref aA)) (P4 : oF11 Z h0 aL (.int 1)) (P5 : own_RO Z h0 aA (10 : Int32) g) (P6 : g (0 : Int32).toNatClampNeg = .ref aS) :
   own_Met l own_y5 kc24 5 (some (.object "com/example/lockstep/lockstep/session/FrameRoom$Share")) ws own_r14 #[(.ref aR), (.ref aS)] Z h0 (Q25 Z aR aS aL aA g h0 n0) := by
 refine own_bd #[vR aR, vR aS, .unset, .unset, .unset] (plainFor_of_name pn_5) fun p e s m below meth c s₁ hx hby hml hrt hlk hZ hown hnm X0 e0 => ?_
 have N0 := Fr.nil n0
 refine o_al X0 hx hby q24_0 ?_
 refine o_g X0 hx hZ hown hw hby e0 P1 66 q24_1 fun T1 X1 e1 => ?_
 refine o_cI (x := own_y44) X1 hx hZ hown hw hml hby (rm4 l Z a0 hw [] aL  h0 n0 Z0 P4) P2 e1 294 295 296 297 298 299 300 169 301 44 0 q24_4 [] [] pd_11 hy_6 fun v2 T2 L2 hQ2 X2 => ?_
 obtain ⟨rfl, Nq2, eq2⟩ := hQ2
 have N2 := Fr.app N0 Nq2
 refine oV ?_
 refine o_iy X2 hx hby q24_9 16 ((if0 _ _).trans (teq rfl).1) ?_
 refine o_al X2 hx hby q24_16 ?_
 refine o_g X2 hx hZ hown hw hby eq2 P1 66 q24_17 fun T3 X3 e3 => ?_
 refine o_ic X3 hx hby 0 q24_20 ?_
 refine o_cI (x := own_y43) X3 hx hZ hown hw hml hby (rm8 l Z a0 hw [] aL aA g aS h0 n0 Z0 P2 P3 P4 P5 P6) P2 e3 302 303 304 305 306 307 308 169 309 44 0 q24_21 [(.int 0)] [] pd_2 hy_6 fun v4 T4 L4 hQ4 X4 => ?_
 obtain ⟨rfl, Nq4, eq4⟩ := hQ4
 have N4 := Fr.app N2 Nq4
 refine oV ?_
 obtain ⟨T5, X5, e5, st5⟩ := castY X4 hx hZ hown (own_w hw 92 rfl) eq4 (Ins.self P0) (g := (mkF m 26 #[vR aR, vR aS, .unset, .unset, .unset] [(.ref aS)])) rfl rfl (hb hby q24_26)
 refine oS st5 ?_
 show oG _ _ _ _ (T5.setTop (mkF m 29 #[vR aR, vR aS, .unset, .unset, .unset] [(.ref aS)]))
 refine o_as X5 hx hby q24_29 #[vR aR, vR aS, vR aS, .unset, .unset] ?_
 refine o_al X5 hx hby q24_30 ?_
 refine o_al X5 hx hby q24_31 ?_
 refine o_ac X5 hx hby q24_32 35 true (decide_eq_true rfl) ?_
 refine o_al X5 hx hby q24_35 ?_
 refine o_g X5 hx hZ hown hw hby e5 P1 66 q24_36 fun T6 X6 e6 => ?_
 refine o_cI (x := own_y47) X6 hx hZ hown hw hml hby (rm2 l Z a0 hw [] aL (1 : Int32) h0 n0 Z0 P4) P2 e6 162 163 164 165 166 167 168 169 170 44 0 q24_39 [] [] pd_10 hy_6 fun v7 T7 L7 hQ7 X7 => ?_
 obtain ⟨rfl, Nq7, eq7⟩ := hQ7
 have N7 := Fr.app N4 Nq7
 refine oV ?_
 refine o_ic X7 hx hby 1 q24_44 ?_
 refine o_cy X7 hx hby q24_45 64 ((flt (by decide)).2.2.2) ?_
 refine o_an X7 hx hby q24_64 ?_
 refine o_as X7 hx hby q24_65 #[vR aR, vR aS, vR aS, .val .null, .unset] ?_
 refine o_al X7 hx hby q24_66 ?_
 refine o_g X7 hx hZ hown hw hby eq7 P1 66 q24_67 fun T8 X8 e8 => ?_
 refine o_cI (x := own_y47) X8 hx hZ hown hw hml hby (rm2 l Z a0 hw [] aL (1 : Int32) h0 n0 Z0 P4) P2 e8 162 163 164 165 166 167 168 169 170 44 0 q24_70 [] [] pd_10 hy_6 fun v9 T9 L9 hQ9 X9 => ?_
 obtain ⟨rfl, Nq9, eq9⟩ := hQ9
 have N9 := Fr.app N7 Nq9
 refine oV ?_
 refine o_ic X9 hx hby 2 q24_75 ?_
 refine o_cy X9 hx hby q24_76 95 ((flt (by decide)).2.2.2) ?_
 refine o_an X9 hx hby q24_95 ?_
 refine o_asw X9 hx hby q24_96 #[vR aR, vR aS, vR aS, .val .null, .val .null] ?_
 refine o_aw X9 hx hby q24_98 ?_
 refine o_ny X9 hx hby q24_100 118 ?_
 refine o_al X9 hx hby q24_118 ?_
 refine o_as X9 hx hby q24_119 #[vR aR, vR aS, .val .null, .val .null, .val .null] ?_
 refine o_al X9 hx hby q24_120 ?_
 exact o_rA X9 hx hby hrt hlk q24_121 (by rw [eq9]; exact ⟨rfl, N9, rfl⟩)
def Q26 (Z : State) (aR aS : Addr) (pb pn : Int64) (aL : Addr) (bd hv : Int64) (h0 : Heap) (n0 : Nat) (v : Option Value) (h : Heap) (L : List Loc) : Prop := v = some .null ∧ Fr n0 L ∧ h = h0
set_option maxRecDepth 65536 in
set_option maxHeartbeats 40000000 in
theorem rm26 (l Z a0) (hw : oW a0 Z) (ws) (aR aS : Addr) (pb pn : Int64) (aL : Addr) (bd hv : Int64) (h0 : Heap) (n0 : Nat) (Z0 : n0 ≤ h0.size) (P0 : oX2 Z h0 aR) (P1 : oF2 Z h0 aR (.long bd)) (P2 : oF4 Z h0 aR (.long hv)) (P3 : oF3 Z h0 aR (.ref aL)) (P4 : oX4 Z h0 aL) (P5 : oF11 Z h0 aL (.int 0)) :
   own_Met l own_y13 kc21 8 (some (.object "com/example/lockstep/lockstep/session/FrameRoom$Share")) ws own_r10 #[(.ref aR), (.ref aS), (.long pb), (.long pn)] Z h0 (Q26 Z aR aS pb pn aL bd hv h0 n0) := by
 refine own_bd #[vR aR, vR aS, vJ pb, .second, vJ pn, .second, .unset, .unset] (plainFor_of_name pn_5) fun p e s m below meth c s₁ hx hby hml hrt hlk hZ hown hnm X0 e0 => ?_
 have N0 := Fr.nil n0
 refine o_al X0 hx hby q21_0 ?_
 refine o_g X0 hx hZ hown hw hby e0 P2 150 q21_1 fun T1 X1 e1 => ?_
 refine o_ll X1 hx hby q21_4 ?_
 refine o_ladd X1 hx hby q21_5 ?_
 refine o_al X1 hx hby q21_6 ?_
 refine o_g X1 hx hZ hown hw hby e1 P1 68 q21_7 fun T2 X2 e2 => ?_
 refine o_lcmp X2 hx hby q21_10 ?_
 by_cases hc3 : bd < (hv + pb)
 · refine o_in X2 hx hby q21_11 ((if0 _ _).trans (tlt ((lw_gt _ _).mpr hc3)).2.2.2) ?_
   refine o_ll X2 hx hby q21_14 ?_
   refine o_al X2 hx hby q21_15 ?_
   refine o_g X2 hx hZ hown hw hby e2 P1 68 q21_16 fun T4 X4 e4 => ?_
   refine o_lcmp X4 hx hby q21_19 ?_
   by_cases hc5 : bd < pb
   · refine o_in X4 hx hby q21_20 ((if0 _ _).trans (tlt ((lw_gt _ _).mpr hc5)).2.2.2) ?_
     refine o_an X4 hx hby q21_23 ?_
     exact o_rA X4 hx hby hrt hlk q21_24 (by rw [e4]; exact ⟨rfl, N0, rfl⟩)
   · refine o_iy X4 hx hby q21_20 25 ((if0 _ _).trans (flt (fun q => absurd ((lw_gt _ _).mp q) hc5)).2.2.2) ?_
     refine o_al X4 hx hby q21_25 ?_
     refine o_al X4 hx hby q21_26 ?_
     refine o_cP X4 hx hZ hown hw hml hby (rm24 l Z a0 hw [] aR aS aL h0 n0 Z0 P3 P4 P5) P0 e4 290 291 30 292 293 31 0 q21_27 [(.ref aS)] [] pd_12 hy_7 fun v6 T6 L6 hQ6 X6 => ?_
     obtain ⟨rfl, Nq6, eq6⟩ := hQ6
     have N6 := Fr.app N0 Nq6
     refine oV ?_
     refine o_asw X6 hx hby q21_30 #[vR aR, vR aS, vJ pb, .second, vJ pn, .second, .val .null, .unset] ?_
     refine o_aw X6 hx hby q21_32 ?_
     refine oS (fun _ κ => XS.ifnonnullNo X6.here hx rfl (hb hby q21_34) rfl κ) ?_
     show oG _ _ _ _ (T6.setTop (mkF m 37 #[vR aR, vR aS, vJ pb, .second, vJ pn, .second, .val .null, .unset] []))
     refine o_ic X6 hx hby 0 q21_37 ?_
     refine o_isw X6 hx hby q21_38 #[vR aR, vR aS, vJ pb, .second, vJ pn, .second, .val .null, vI 0] ?_
     refine o_gt X6 hx hby q21_40 95 ?_
     refine o_iw X6 hx hby q21_95 ?_
     refine o_iy X6 hx hby q21_97 105 ((if0 _ _).trans (teq rfl).1) ?_
     refine o_an X6 hx hby q21_105 ?_
     exact o_rA X6 hx hby hrt hlk q21_106 (by rw [eq6]; exact ⟨rfl, N6, rfl⟩)
 · refine o_iy X2 hx hby q21_11 23 ((if0 _ _).trans (flt (fun q => absurd ((lw_gt _ _).mp q) hc3)).2.2.2) ?_
   refine o_an X2 hx hby q21_23 ?_
   exact o_rA X2 hx hby hrt hlk q21_24 (by rw [e2]; exact ⟨rfl, N0, rfl⟩)
def Q27 (Z : State) (aR aS : Addr) (pb pn : Int64) (aL aA : Addr) (g : Nat → Value) (bd hv : Int64) (h0 : Heap) (n0 : Nat) (v : Option Value) (h : Heap) (L : List Loc) : Prop := v = some .null ∧ Fr n0 L ∧ h = h0
set_option maxRecDepth 65536 in
set_option maxHeartbeats 40000000 in
theorem rm27 (l Z a0) (hw : oW a0 Z) (ws) (aR aS : Addr) (pb pn : Int64) (aL aA : Addr) (g : Nat → Value) (bd hv : Int64) (h0 : Heap) (n0 : Nat) (Z0 : n0 ≤ h0.size) (P0 : oX2 Z h0 aR) (P1 : oF2 Z h0 aR (.long bd)) (P2 : oF4 Z h0 aR (.long hv)) (P3 : oX3 Z h0 aS) (P4 : oF3 Z h0 aR (.ref aL)) (P5 : oX4 Z h0 aL) (P6 : oF10 Z h0 aL (.ref aA)) (P7 : oF11 Z h0 aL (.int 1)) (P8 : own_RO Z h0 aA (10 : Int32) g) (P9 : g (0 : Int32).toNatClampNeg = .ref aS) :
   own_Met l own_y13 kc21 8 (some (.object "com/example/lockstep/lockstep/session/FrameRoom$Share")) ws own_r19 #[(.ref aR), (.ref aS), (.long pb), (.long pn)] Z h0 (Q27 Z aR aS pb pn aL aA g bd hv h0 n0) := by
 refine own_bd #[vR aR, vR aS, vJ pb, .second, vJ pn, .second, .unset, .unset] (plainFor_of_name pn_5) fun p e s m below meth c s₁ hx hby hml hrt hlk hZ hown hnm X0 e0 => ?_
 have N0 := Fr.nil n0
 refine o_al X0 hx hby q21_0 ?_
 refine o_g X0 hx hZ hown hw hby e0 P2 150 q21_1 fun T1 X1 e1 => ?_
 refine o_ll X1 hx hby q21_4 ?_
 refine o_ladd X1 hx hby q21_5 ?_
 refine o_al X1 hx hby q21_6 ?_
 refine o_g X1 hx hZ hown hw hby e1 P1 68 q21_7 fun T2 X2 e2 => ?_
 refine o_lcmp X2 hx hby q21_10 ?_
 by_cases hc3 : bd < (hv + pb)
 · refine o_in X2 hx hby q21_11 ((if0 _ _).trans (tlt ((lw_gt _ _).mpr hc3)).2.2.2) ?_
   refine o_ll X2 hx hby q21_14 ?_
   refine o_al X2 hx hby q21_15 ?_
   refine o_g X2 hx hZ hown hw hby e2 P1 68 q21_16 fun T4 X4 e4 => ?_
   refine o_lcmp X4 hx hby q21_19 ?_
   by_cases hc5 : bd < pb
   · refine o_in X4 hx hby q21_20 ((if0 _ _).trans (tlt ((lw_gt _ _).mpr hc5)).2.2.2) ?_
     refine o_an X4 hx hby q21_23 ?_
     exact o_rA X4 hx hby hrt hlk q21_24 (by rw [e4]; exact ⟨rfl, N0, rfl⟩)
   · refine o_iy X4 hx hby q21_20 25 ((if0 _ _).trans (flt (fun q => absurd ((lw_gt _ _).mp q) hc5)).2.2.2) ?_
     refine o_al X4 hx hby q21_25 ?_
     refine o_al X4 hx hby q21_26 ?_
     refine o_cP X4 hx hZ hown hw hml hby (rm25 l Z a0 hw [] aR aS aL aA g h0 n0 Z0 P3 P4 P5 P6 P7 P8 P9) P0 e4 290 291 30 292 293 31 0 q21_27 [(.ref aS)] [] pd_12 hy_7 fun v6 T6 L6 hQ6 X6 => ?_
     obtain ⟨rfl, Nq6, eq6⟩ := hQ6
     have N6 := Fr.app N0 Nq6
     refine oV ?_
     refine o_asw X6 hx hby q21_30 #[vR aR, vR aS, vJ pb, .second, vJ pn, .second, .val .null, .unset] ?_
     refine o_aw X6 hx hby q21_32 ?_
     refine oS (fun _ κ => XS.ifnonnullNo X6.here hx rfl (hb hby q21_34) rfl κ) ?_
     show oG _ _ _ _ (T6.setTop (mkF m 37 #[vR aR, vR aS, vJ pb, .second, vJ pn, .second, .val .null, .unset] []))
     refine o_ic X6 hx hby 0 q21_37 ?_
     refine o_isw X6 hx hby q21_38 #[vR aR, vR aS, vJ pb, .second, vJ pn, .second, .val .null, vI 0] ?_
     refine o_gt X6 hx hby q21_40 95 ?_
     refine o_iw X6 hx hby q21_95 ?_
     refine o_iy X6 hx hby q21_97 105 ((if0 _ _).trans (teq rfl).1) ?_
     refine o_an X6 hx hby q21_105 ?_
     exact o_rA X6 hx hby hrt hlk q21_106 (by rw [eq6]; exact ⟨rfl, N6, rfl⟩)
 · refine o_iy X2 hx hby q21_11 23 ((if0 _ _).trans (flt (fun q => absurd ((lw_gt _ _).mp q) hc3)).2.2.2) ?_
   refine o_an X2 hx hby q21_23 ?_
   exact o_rA X2 hx hby hrt hlk q21_24 (by rw [e2]; exact ⟨rfl, N0, rfl⟩)
def Q28 (Z : State) (aR aS aL : Addr) (hv md : Int64) (mc : Int32) (aD : Addr) (kD : ClassId) (h0 : Heap) (n0 : Nat) (v : Option Value) (h : Heap) (L : List Loc) : Prop := ∃ aA : Addr, ∃ gq : Nat → Value, ∃ mc2 : Int32, v = none ∧ Fr n0 L ∧ Keep h0 h [aS, aL] ∧ (h0.size ≤ aA) ∧ (oF9 Z h aS (.int 0)) ∧ (oF7 Z h aS (.long hv)) ∧ (oF8 Z h aS (.long md)) ∧ (oF6 Z h aS (.ref aR)) ∧ (oF10 Z h aL (.ref aA)) ∧ (oF11 Z h aL (.int 1)) ∧ (oF12 Z h aL (.int mc2)) ∧ (own_RO Z h aA (10 : Int32) gq) ∧ (gq (0 : Int32).toNatClampNeg = .ref aS)
set_option maxRecDepth 65536 in
set_option maxHeartbeats 40000000 in
theorem rm28 (l Z a0) (hw : oW a0 Z) (ws) (aR aS aL : Addr) (hv md : Int64) (mc : Int32) (aD : Addr) (kD : ClassId) (h0 : Heap) (n0 : Nat) (Z0 : n0 ≤ h0.size) (P0 : oX2 Z h0 aR) (P1 : oX3 Z h0 aS) (P2 : oF3 Z h0 aR (.ref aL)) (P3 : (0 : Int64) < hv) (P4 : oF7 Z h0 aS (.long hv)) (P5 : oF8 Z h0 aS (.long md)) (P6 : oF6 Z h0 aS (.ref aR)) (P7 : oF9 Z h0 aS (.int (-1))) (P8 : oX4 Z h0 aL) (P9 : Old Z n0 h0) (P10 : Sta Z Z.heap "java/util/ArrayList" "DEFAULTCAPACITY_EMPTY_ELEMENTDATA" "[Ljava/lang/Object;" (.ref aD)) (P11 : Arv Z Z.heap aD kD (.object "java/lang/Object") (0 : Int32) [] .null) (P12 : oF10 Z h0 aL (.ref aD)) (P13 : oF11 Z h0 aL (.int 0)) (P14 : oF12 Z h0 aL (.int mc)) (P15 : n0 ≤ aS) (P16 : n0 ≤ aL) :
   own_Met l own_y7 kc2 3 none ws own_r25 #[(.ref aR), (.ref aS)] Z h0 (Q28 Z aR aS aL hv md mc aD kD h0 n0) := by
 refine own_bd #[vR aR, vR aS, .unset] (plainFor_of_name pn_5) fun p e s m below meth c s₁ hx hby hml hrt hlk hZ hown hnm X0 e0 => ?_
 have N0 := Fr.nil n0
 refine o_al X0 hx hby q2_0 ?_
 obtain ⟨T1, X1, e1, st1⟩ := own_getFR X0 hx hZ hown (own_w hw 152 rfl) e0 P4 (g := (mkF m 1 #[vR aR, vR aS, .unset] [(.ref aS)])) rfl rfl (hb hby q2_1)
 refine oS st1 ?_
 show oG _ _ _ _ (T1.setTop (mkF m 4 #[vR aR, vR aS, .unset] [(.long hv)]))
 refine o_lc X1 hx hby 0 q2_4 ?_
 refine o_lcmp X1 hx hby q2_5 ?_
 refine o_in X1 hx hby q2_6 ((if0 _ _).trans (tlt ((lw_gt _ _).mpr P3)).2.2.2) ?_
 refine o_al X1 hx hby q2_9 ?_
 obtain ⟨T2, X2, e2, st2⟩ := own_getFR X1 hx hZ hown (own_w hw 161 rfl) e1 P7 (g := (mkF m 10 #[vR aR, vR aS, .unset] [(.ref aS)])) rfl rfl (hb hby q2_10)
 refine oS st2 ?_
 show oG _ _ _ _ (T2.setTop (mkF m 13 #[vR aR, vR aS, .unset] [(.int (-1))]))
 refine o_in X2 hx hby q2_13 ((if0 _ _).trans (tlt (by decide)).2.1) ?_
 refine o_al X2 hx hby q2_16 ?_
 refine o_al X2 hx hby q2_17 ?_
 refine o_g X2 hx hZ hown hw hby e2 P2 66 q2_18 fun T3 X3 e3 => ?_
 refine o_cI (x := own_y47) X3 hx hZ hown hw hml hby (rm2 l Z a0 hw [] aL (0 : Int32) h0 n0 Z0 P13) P8 e3 162 163 164 165 166 167 168 169 170 44 1 q2_21 [] [(.ref aS)] pd_10 hy_6 fun v4 T4 L4 hQ4 X4 => ?_
 obtain ⟨rfl, Nq4, eq4⟩ := hQ4
 have N4 := Fr.app N0 Nq4
 refine oV ?_
 obtain ⟨T5, h5, X5, e5, W5, st5⟩ := own_putFR X4 hx hZ hown (own_w hw 161 rfl) eq4 P7 P1 (own_w hw 102 rfl) (own_w hw 93 rfl) (ty := .int) ft_1 rfl rfl (g := (mkF m 26 #[vR aR, vR aS, .unset] [(.int 0), (.ref aS)])) rfl rfl (hb hby q2_26)
 refine oS st5 ?_
 have N5 := Fr.snoc X5 N4 P15
 have Fw5 := P7.same W5
 have f6 := P0.wr W5
 have f7 := P1.wr W5
 have ne8 := own_neE P0 P1 ns_4
 have f9 := P2.other W5 (Or.inl ne8)
 have f10 := P4.other W5 (Or.inr (sn_6 hw))
 have f11 := P5.other W5 (Or.inr (sn_7 hw))
 have f12 := P6.other W5 (Or.inr (sn_8 hw))
 have f13 := P8.wr W5
 have f14 := P9.wr W5 P15
 have ne15 := own_neE P8 P1 (Ne.symm ns_2)
 have f16 := P12.other W5 (Or.inl ne15)
 have f17 := P13.other W5 (Or.inl ne15)
 have f18 := P14.other W5 (Or.inl ne15)
 have K19 := (Keep.refl h0 [aS, aL]).wr W5 (ow 0 rfl)
 have z20 := Nat.le_trans Z0 (Keep.of_wr W5).1
 show oG _ _ _ _ (T5.setTop (mkF m 29 #[vR aR, vR aS, .unset] []))
 refine o_al X5 hx hby q2_29 ?_
 refine o_g X5 hx hZ hown hw hby e5 f9 66 q2_30 fun T21 X21 e21 => ?_
 refine o_al X21 hx hby q2_33 ?_
 refine o_cI (x := own_y42) X21 hx hZ hown hw hml hby (rm14 l Z a0 hw [] aL aS aD kD mc h5 n0 z20 f13 f7 f14 P10 P11 f16 f17 f18 P16) f13 e21 173 174 175 176 177 178 179 169 180 44 0 q2_34 [(.ref aS)] [] pd_13 hy_6 fun v22 T22 L22 hQ22 X22 => ?_
 obtain ⟨aA23, gq24, rfl, Nq22, Kq22, p22_0, p22_1, p22_2, p22_3, p22_4, p22_5⟩ := hQ22
 have N22 := Fr.app N5 Nq22
 have ne25 : aR ≠ aA23 := Nat.ne_of_lt (Nat.lt_of_lt_of_le f6.lt p22_0)
 have ne26 : aS ≠ aA23 := Nat.ne_of_lt (Nat.lt_of_lt_of_le f7.lt p22_0)
 have ne27 : aL ≠ aA23 := Nat.ne_of_lt (Nat.lt_of_lt_of_le f13.lt p22_0)
 have ne28 : aD ≠ aA23 := Nat.ne_of_lt (Nat.lt_of_lt_of_le (P11.ext f14.2).lt p22_0)
 have ge29 : n0 ≤ aA23 := Nat.le_trans z20 p22_0
 have sz30 : h0.size ≤ aA23 := Nat.le_trans K19.1 p22_0
 have f31 := f6.keep Kq22
 have f32 := f7.keep Kq22
 have ne33 := own_neE f6 f13 ns_5
 have f34 := f9.keep Kq22 (ninS ne33 nin0)
 have f35 := f10.keep Kq22 (ninS (Ne.symm ne15) nin0)
 have f36 := f11.keep Kq22 (ninS (Ne.symm ne15) nin0)
 have f37 := f12.keep Kq22 (ninS (Ne.symm ne15) nin0)
 have f38 := f13.keep Kq22
 have f39 := f14.keep Kq22 (allS P16 all0)
 have f40 := Fw5.keep Kq22 (ninS (Ne.symm ne15) nin0)
 have K41 := K19.trans Kq22 (allS (ow 1 rfl) all0)
 have z42 := Nat.le_trans z20 Kq22.1
 refine oV ?_
 refine o_pop X22 hx hby q2_39 ?_
 refine o_al X22 hx hby q2_40 ?_
 refine o_al X22 hx hby q2_41 ?_
 refine o_cP X22 hx hZ hown hw hml hby (rm22 l Z a0 hw [] aR aS aL aA23 gq24 hv md T22.heap n0 z42 f31 f32 f34 f40 f35 f36 f37 f38 p22_1 p22_2 p22_4 p22_5 P15 ge29) f31 rfl 205 206 30 207 208 31 0 q2_42 [(.ref aS)] [] pd_14 hy_7 fun v43 T43 L43 hQ43 X43 => ?_
 obtain ⟨gq44, rfl, Nq43, Kq43, p43_0, p43_1, p43_2, p43_3, p43_4, p43_5⟩ := hQ43
 have N43 := Fr.app N22 Nq43
 have f45 := f31.keep Kq43
 have f46 := f32.keep Kq43
 have wx47 : own_exs Z _ [aS, aA23] ocl_0 := ⟨f32, p22_4.exa, trivial⟩
 have ni48 := own_nin f31 wx47 nc_0
 have f49 := f34.keep Kq43 ni48
 have f50 := f38.keep Kq43
 have f51 := f39.keep Kq43 (allS P15 (allS ge29 all0))
 have ni52 := own_nin f38 wx47 nc_1
 have f53 := p22_1.keep Kq43 ni52
 have f54 := p22_2.keep Kq43 ni52
 have f55 := p22_3.keep Kq43 ni52
 have K56 := K41.trans Kq43 (allS (ow 0 rfl) (allS (Or.inr sz30) all0))
 have z57 := Nat.le_trans z42 Kq43.1
 refine oN ?_
 refine o_gt X43 hx hby q2_45 130 ?_
 exact o_rv X43 hx hby hrt hlk q2_130 ⟨aA23, gq44, (mc + (1 : Int32)), rfl, N43, K56, sz30, p43_0, p43_1, p43_2, p43_3, f53, f54, f55, p43_4, p43_5⟩
def Q29 (Z : State) (aR aS aL : Addr) (hv md : Int64) (mc : Int32) (aA : Addr) (g : Nat → Value) (h0 : Heap) (n0 : Nat) (v : Option Value) (h : Heap) (L : List Loc) : Prop := ∃ gq : Nat → Value, ∃ mc2 : Int32, v = none ∧ Fr n0 L ∧ Keep h0 h [aS, aL, aA] ∧ (oF9 Z h aS (.int 0)) ∧ (oF7 Z h aS (.long hv)) ∧ (oF8 Z h aS (.long md)) ∧ (oF6 Z h aS (.ref aR)) ∧ (oF10 Z h aL (.ref aA)) ∧ (oF11 Z h aL (.int 1)) ∧ (oF12 Z h aL (.int mc2)) ∧ (own_RO Z h aA (10 : Int32) gq) ∧ (gq (0 : Int32).toNatClampNeg = .ref aS)
set_option maxRecDepth 65536 in
set_option maxHeartbeats 40000000 in
theorem rm29 (l Z a0) (hw : oW a0 Z) (ws) (aR aS aL : Addr) (hv md : Int64) (mc : Int32) (aA : Addr) (g : Nat → Value) (h0 : Heap) (n0 : Nat) (Z0 : n0 ≤ h0.size) (P0 : oX2 Z h0 aR) (P1 : oX3 Z h0 aS) (P2 : oF3 Z h0 aR (.ref aL)) (P3 : (0 : Int64) < hv) (P4 : oF7 Z h0 aS (.long hv)) (P5 : oF8 Z h0 aS (.long md)) (P6 : oF6 Z h0 aS (.ref aR)) (P7 : oF9 Z h0 aS (.int (-1))) (P8 : oX4 Z h0 aL) (P9 : oF10 Z h0 aL (.ref aA)) (P10 : oF11 Z h0 aL (.int 0)) (P11 : oF12 Z h0 aL (.int mc)) (P12 : own_RO Z h0 aA (10 : Int32) g) (P13 : n0 ≤ aS) (P14 : n0 ≤ aL) (P15 : n0 ≤ aA) :
   own_Met l own_y7 kc2 3 none ws own_r23 #[(.ref aR), (.ref aS)] Z h0 (Q29 Z aR aS aL hv md mc aA g h0 n0) := by
 refine own_bd #[vR aR, vR aS, .unset] (plainFor_of_name pn_5) fun p e s m below meth c s₁ hx hby hml hrt hlk hZ hown hnm X0 e0 => ?_
 have N0 := Fr.nil n0
 refine o_al X0 hx hby q2_0 ?_
 obtain ⟨T1, X1, e1, st1⟩ := own_getFR X0 hx hZ hown (own_w hw 152 rfl) e0 P4 (g := (mkF m 1 #[vR aR, vR aS, .unset] [(.ref aS)])) rfl rfl (hb hby q2_1)
 refine oS st1 ?_
 show oG _ _ _ _ (T1.setTop (mkF m 4 #[vR aR, vR aS, .unset] [(.long hv)]))
 refine o_lc X1 hx hby 0 q2_4 ?_
 refine o_lcmp X1 hx hby q2_5 ?_
 refine o_in X1 hx hby q2_6 ((if0 _ _).trans (tlt ((lw_gt _ _).mpr P3)).2.2.2) ?_
 refine o_al X1 hx hby q2_9 ?_
 obtain ⟨T2, X2, e2, st2⟩ := own_getFR X1 hx hZ hown (own_w hw 161 rfl) e1 P7 (g := (mkF m 10 #[vR aR, vR aS, .unset] [(.ref aS)])) rfl rfl (hb hby q2_10)
 refine oS st2 ?_
 show oG _ _ _ _ (T2.setTop (mkF m 13 #[vR aR, vR aS, .unset] [(.int (-1))]))
 refine o_in X2 hx hby q2_13 ((if0 _ _).trans (tlt (by decide)).2.1) ?_
 refine o_al X2 hx hby q2_16 ?_
 refine o_al X2 hx hby q2_17 ?_
 refine o_g X2 hx hZ hown hw hby e2 P2 66 q2_18 fun T3 X3 e3 => ?_
 refine o_cI (x := own_y47) X3 hx hZ hown hw hml hby (rm2 l Z a0 hw [] aL (0 : Int32) h0 n0 Z0 P10) P8 e3 162 163 164 165 166 167 168 169 170 44 1 q2_21 [] [(.ref aS)] pd_10 hy_6 fun v4 T4 L4 hQ4 X4 => ?_
 obtain ⟨rfl, Nq4, eq4⟩ := hQ4
 have N4 := Fr.app N0 Nq4
 refine oV ?_
 obtain ⟨T5, h5, X5, e5, W5, st5⟩ := own_putFR X4 hx hZ hown (own_w hw 161 rfl) eq4 P7 P1 (own_w hw 102 rfl) (own_w hw 93 rfl) (ty := .int) ft_1 rfl rfl (g := (mkF m 26 #[vR aR, vR aS, .unset] [(.int 0), (.ref aS)])) rfl rfl (hb hby q2_26)
 refine oS st5 ?_
 have N5 := Fr.snoc X5 N4 P13
 have Fw5 := P7.same W5
 have f6 := P0.wr W5
 have f7 := P1.wr W5
 have ne8 := own_neE P0 P1 ns_4
 have f9 := P2.other W5 (Or.inl ne8)
 have f10 := P4.other W5 (Or.inr (sn_6 hw))
 have f11 := P5.other W5 (Or.inr (sn_7 hw))
 have f12 := P6.other W5 (Or.inr (sn_8 hw))
 have f13 := P8.wr W5
 have ne14 := own_neE P8 P1 (Ne.symm ns_2)
 have f15 := P9.other W5 (Or.inl ne14)
 have f16 := P10.other W5 (Or.inl ne14)
 have f17 := P11.other W5 (Or.inl ne14)
 have ne18 := own_neE P12.exa P1 ns_1
 have f19 := P12.other W5 ne18
 have K20 := (Keep.refl h0 [aS, aL, aA]).wr W5 (ow 0 rfl)
 have z21 := Nat.le_trans Z0 (Keep.of_wr W5).1
 show oG _ _ _ _ (T5.setTop (mkF m 29 #[vR aR, vR aS, .unset] []))
 refine o_al X5 hx hby q2_29 ?_
 refine o_g X5 hx hZ hown hw hby e5 f9 66 q2_30 fun T22 X22 e22 => ?_
 refine o_al X22 hx hby q2_33 ?_
 refine o_cI (x := own_y42) X22 hx hZ hown hw hml hby (rm15 l Z a0 hw [] aL aS aA g mc h5 n0 z21 f13 f7 f16 f15 f17 f19 P14 P15) f13 e22 173 174 175 176 177 178 179 169 180 44 0 q2_34 [(.ref aS)] [] pd_13 hy_6 fun v23 T23 L23 hQ23 X23 => ?_
 obtain ⟨gq24, rfl, Nq23, Kq23, p23_0, p23_1, p23_2, p23_3, p23_4⟩ := hQ23
 have N23 := Fr.app N5 Nq23
 have f25 := f6.keep Kq23
 have f26 := f7.keep Kq23
 have wx27 : own_exs Z _ [aL, aA] ocl_1 := ⟨f13, f19.exa, trivial⟩
 have ni28 := own_nin f6 wx27 nc_2
 have f29 := f9.keep Kq23 ni28
 have ni30 := own_nin f7 wx27 nc_3
 have f31 := f10.keep Kq23 ni30
 have f32 := f11.keep Kq23 ni30
 have f33 := f12.keep Kq23 ni30
 have f34 := f13.keep Kq23
 have f35 := Fw5.keep Kq23 ni30
 have K36 := K20.trans Kq23 (allS (ow 1 rfl) (allS (ow 2 rfl) all0))
 have z37 := Nat.le_trans z21 Kq23.1
 refine oV ?_
 refine o_pop X23 hx hby q2_39 ?_
 refine o_al X23 hx hby q2_40 ?_
 refine o_al X23 hx hby q2_41 ?_
 refine o_cP X23 hx hZ hown hw hml hby (rm22 l Z a0 hw [] aR aS aL aA gq24 hv md T23.heap n0 z37 f25 f26 f29 f35 f31 f32 f33 f34 p23_0 p23_1 p23_3 p23_4 P13 P15) f25 rfl 205 206 30 207 208 31 0 q2_42 [(.ref aS)] [] pd_14 hy_7 fun v38 T38 L38 hQ38 X38 => ?_
 obtain ⟨gq39, rfl, Nq38, Kq38, p38_0, p38_1, p38_2, p38_3, p38_4, p38_5⟩ := hQ38
 have N38 := Fr.app N23 Nq38
 have f40 := f25.keep Kq38
 have f41 := f26.keep Kq38
 have wx42 : own_exs Z _ [aS, aA] ocl_0 := ⟨f26, p23_3.exa, trivial⟩
 have ni43 := own_nin f25 wx42 nc_0
 have f44 := f29.keep Kq38 ni43
 have f45 := f34.keep Kq38
 have ni46 := own_nin f34 wx42 nc_1
 have f47 := p23_0.keep Kq38 ni46
 have f48 := p23_1.keep Kq38 ni46
 have f49 := p23_2.keep Kq38 ni46
 have K50 := K36.trans Kq38 (allS (ow 0 rfl) (allS (ow 2 rfl) all0))
 have z51 := Nat.le_trans z37 Kq38.1
 refine oN ?_
 refine o_gt X38 hx hby q2_45 130 ?_
 exact o_rv X38 hx hby hrt hlk q2_130 ⟨gq39, (mc + (1 : Int32)), rfl, N38, K50, p38_0, p38_1, p38_2, p38_3, f47, f48, f49, p38_4, p38_5⟩
def Q30 (Z : State) (aR aS aL : Addr) (hv md : Int64) (mc : Int32) (aA : Addr) (g : Nat → Value) (h0 : Heap) (n0 : Nat) (v : Option Value) (h : Heap) (L : List Loc) : Prop := ∃ gq : Nat → Value, ∃ mc2 : Int32, v = none ∧ Fr n0 L ∧ Keep h0 h [aS, aL, aA] ∧ (oF9 Z h aS (.int 0)) ∧ (oF7 Z h aS (.long hv)) ∧ (oF8 Z h aS (.long md)) ∧ (oF6 Z h aS (.ref aR)) ∧ (oF10 Z h aL (.ref aA)) ∧ (oF11 Z h aL (.int 1)) ∧ (oF12 Z h aL (.int mc2)) ∧ (own_RO Z h aA (10 : Int32) gq) ∧ (gq (0 : Int32).toNatClampNeg = .ref aS)
set_option maxRecDepth 65536 in
set_option maxHeartbeats 40000000 in
theorem rm30 (l Z a0) (hw : oW a0 Z) (ws) (aR aS aL : Addr) (hv md : Int64) (mc : Int32) (aA : Addr) (g : Nat → Value) (h0 : Heap) (n0 : Nat) (Z0 : n0 ≤ h0.size) (P0 : oX2 Z h0 aR) (P1 : oX3 Z h0 aS) (P2 : oF3 Z h0 aR (.ref aL)) (P3 : (0 : Int64) < hv) (P4 : oF7 Z h0 aS (.long hv)) (P5 : oF8 Z h0 aS (.long md)) (P6 : oF6 Z h0 aS (.ref aR)) (P7 : oF9 Z h0 aS (.int 0)) (P8 : oX4 Z h0 aL) (P9 : oF10 Z h0 aL (.ref aA)) (P10 : oF11 Z h0 aL (.int 1)) (P11 : oF12 Z h0 aL (.int mc)) (P12 : own_RO Z h0 aA (10 : Int32) g) (P13 : g (0 : Int32).toNatClampNeg = .ref aS) (P14 : n0 ≤ aS) (P15 : n0 ≤ aL) (P16 : n0 ≤ aA) :
   own_Met l own_y7 kc2 3 none ws own_r23 #[(.ref aR), (.ref aS)] Z h0 (Q30 Z aR aS aL hv md mc aA g h0 n0) := by
 refine own_bd #[vR aR, vR aS, .unset] (plainFor_of_name pn_5) fun p e s m below meth c s₁ hx hby hml hrt hlk hZ hown hnm X0 e0 => ?_
 have N0 := Fr.nil n0
 refine o_al X0 hx hby q2_0 ?_
 obtain ⟨T1, X1, e1, st1⟩ := own_getFR X0 hx hZ hown (own_w hw 152 rfl) e0 P4 (g := (mkF m 1 #[vR aR, vR aS, .unset] [(.ref aS)])) rfl rfl (hb hby q2_1)
 refine oS st1 ?_
 show oG _ _ _ _ (T1.setTop (mkF m 4 #[vR aR, vR aS, .unset] [(.long hv)]))
 refine o_lc X1 hx hby 0 q2_4 ?_
 refine o_lcmp X1 hx hby q2_5 ?_
 refine o_in X1 hx hby q2_6 ((if0 _ _).trans (tlt ((lw_gt _ _).mpr P3)).2.2.2) ?_
 refine o_al X1 hx hby q2_9 ?_
 obtain ⟨T2, X2, e2, st2⟩ := own_getFR X1 hx hZ hown (own_w hw 161 rfl) e1 P7 (g := (mkF m 10 #[vR aR, vR aS, .unset] [(.ref aS)])) rfl rfl (hb hby q2_10)
 refine oS st2 ?_
 show oG _ _ _ _ (T2.setTop (mkF m 13 #[vR aR, vR aS, .unset] [(.int 0)]))
 refine o_iy X2 hx hby q2_13 48 ((if0 _ _).trans (flt (by decide)).2.1) ?_
 refine o_al X2 hx hby q2_48 ?_
 obtain ⟨T3, X3, e3, st3⟩ := own_getFR X2 hx hZ hown (own_w hw 152 rfl) e2 P4 (g := (mkF m 49 #[vR aR, vR aS, .unset] [(.ref aS)])) rfl rfl (hb hby q2_49)
 refine oS st3 ?_
 show oG _ _ _ _ (T3.setTop (mkF m 52 #[vR aR, vR aS, .unset] [(.long hv)]))
 refine o_lc X3 hx hby 0 q2_52 ?_
 refine o_lcmp X3 hx hby q2_53 ?_
 refine o_in X3 hx hby q2_54 ((if0 _ _).trans (tlt ((lw_gt _ _).mpr P3)).2.2.2) ?_
 refine o_al X3 hx hby q2_57 ?_
 refine o_al X3 hx hby q2_58 ?_
 refine o_cP X3 hx hZ hown hw hml hby (rm22 l Z a0 hw [] aR aS aL aA g hv md h0 n0 Z0 P0 P1 P2 P7 P4 P5 P6 P8 P9 P10 P12 P13 P14 P16) P0 e3 205 206 30 207 208 31 0 q2_59 [(.ref aS)] [] pd_14 hy_7 fun v4 T4 L4 hQ4 X4 => ?_
 obtain ⟨gq5, rfl, Nq4, Kq4, p4_0, p4_1, p4_2, p4_3, p4_4, p4_5⟩ := hQ4
 have N4 := Fr.app N0 Nq4
 have f6 := P0.keep Kq4
 have f7 := P1.keep Kq4
 have wx8 : own_exs Z _ [aS, aA] ocl_0 := ⟨P1, P12.exa, trivial⟩
 have ni9 := own_nin P0 wx8 nc_0
 have f10 := P2.keep Kq4 ni9
 have f11 := P8.keep Kq4
 have ni12 := own_nin P8 wx8 nc_1
 have f13 := P9.keep Kq4 ni12
 have f14 := P10.keep Kq4 ni12
 have f15 := P11.keep Kq4 ni12
 have K16 := (Keep.refl h0 [aS, aL, aA]).trans Kq4 (allS (ow 0 rfl) (allS (ow 2 rfl) all0))
 have z17 := Nat.le_trans Z0 Kq4.1
 refine oN ?_
 refine o_al X4 hx hby q2_62 ?_
 refine o_al X4 hx hby q2_63 ?_
 refine o_cP X4 hx hZ hown hw hml hby (rm23 l Z a0 hw [] aR aS aL aA gq5 hv md T4.heap n0 z17 f6 f7 f10 p4_0 p4_1 p4_2 p4_3 f11 f13 f14 p4_4 p4_5 P14 P16) f6 rfl 255 256 30 257 258 31 0 q2_64 [(.ref aS)] [] pd_14 hy_7 fun v18 T18 L18 hQ18 X18 => ?_
 obtain ⟨gq19, rfl, Nq18, Kq18, p18_0, p18_1, p18_2, p18_3, p18_4, p18_5⟩ := hQ18
 have N18 := Fr.app N4 Nq18
 have f20 := f6.keep Kq18
 have f21 := f7.keep Kq18
 have f22 := f10.keep Kq18 ni9
 have f23 := f11.keep Kq18
 have f24 := f13.keep Kq18 ni12
 have f25 := f14.keep Kq18 ni12
 have f26 := f15.keep Kq18 ni12
 have K27 := K16.trans Kq18 (allS (ow 0 rfl) (allS (ow 2 rfl) all0))
 have z28 := Nat.le_trans z17 Kq18.1
 refine oN ?_
 refine o_gt X18 hx hby q2_67 130 ?_
 exact o_rv X18 hx hby hrt hlk q2_130 ⟨gq19, mc, rfl, N18, K27, p18_0, p18_1, p18_2, p18_3, f24, f25, f26, p18_4, p18_5⟩
def Q31 (Z : State) (aR aS aL : Addr) (hv md : Int64) (mc : Int32) (aA : Addr) (g : Nat → Value) (h0 : Heap) (n0 : Nat) (v : Option Value) (h : Heap) (L : List Loc) : Prop := ∃ gq : Nat → Value, ∃ mc2 : Int32, v = none ∧ Fr n0 L ∧ Keep h0 h [aS, aL, aA] ∧ (oF9 Z h aS (.int (-1))) ∧ (oF7 Z h aS (.long hv)) ∧ (oF8 Z h aS (.long md)) ∧ (oF6 Z h aS (.ref aR)) ∧ (oF10 Z h aL (.ref aA)) ∧ (oF11 Z h aL (.int 0)) ∧ (oF12 Z h aL (.int mc2)) ∧ (own_RO Z h aA (10 : Int32) gq)
set_option maxRecDepth 65536 in
set_option maxHeartbeats 40000000 in
theorem rm31 (l Z a0) (hw : oW a0 Z) (ws) (aR aS aL : Addr) (hv md : Int64) (mc : Int32) (aA : Addr) (g : Nat → Value) (h0 : Heap) (n0 : Nat) (Z0 : n0 ≤ h0.size) (P0 : oX2 Z h0 aR) (P1 : oX3 Z h0 aS) (P2 : oF3 Z h0 aR (.ref aL)) (P3 : ¬ (0 : Int64) < hv) (P4 : oF7 Z h0 aS (.long hv)) (P5 : oF8 Z h0 aS (.long md)) (P6 : oF6 Z h0 aS (.ref aR)) (P7 : oF9 Z h0 aS (.int 0)) (P8 : oX4 Z h0 aL) (P9 : oF10 Z h0 aL (.ref aA)) (P10 : oF11 Z h0 aL (.int 1)) (P11 : oF12 Z h0 aL (.int mc)) (P12 : own_RO Z h0 aA (10 : Int32) g) (P13 : g (0 : Int32).toNatClampNeg = .ref aS) (P14 : n0 ≤ aS) (P15 : n0 ≤ aL) (P16 : n0 ≤ aA) :
   own_Met l own_y7 kc2 3 none ws own_r15 #[(.ref aR), (.ref aS)] Z h0 (Q31 Z aR aS aL hv md mc aA g h0 n0) := by
 refine own_bd #[vR aR, vR aS, .unset] (plainFor_of_name pn_5) fun p e s m below meth c s₁ hx hby hml hrt hlk hZ hown hnm X0 e0 => ?_
 have N0 := Fr.nil n0
 refine o_al X0 hx hby q2_0 ?_
 obtain ⟨T1, X1, e1, st1⟩ := own_getFR X0 hx hZ hown (own_w hw 152 rfl) e0 P4 (g := (mkF m 1 #[vR aR, vR aS, .unset] [(.ref aS)])) rfl rfl (hb hby q2_1)
 refine oS st1 ?_
 show oG _ _ _ _ (T1.setTop (mkF m 4 #[vR aR, vR aS, .unset] [(.long hv)]))
 refine o_lc X1 hx hby 0 q2_4 ?_
 refine o_lcmp X1 hx hby q2_5 ?_
 refine o_iy X1 hx hby q2_6 48 ((if0 _ _).trans (flt (fun q => absurd ((lw_gt _ _).mp q) P3)).2.2.2) ?_
 refine o_al X1 hx hby q2_48 ?_
 obtain ⟨T2, X2, e2, st2⟩ := own_getFR X1 hx hZ hown (own_w hw 152 rfl) e1 P4 (g := (mkF m 49 #[vR aR, vR aS, .unset] [(.ref aS)])) rfl rfl (hb hby q2_49)
 refine oS st2 ?_
 show oG _ _ _ _ (T2.setTop (mkF m 52 #[vR aR, vR aS, .unset] [(.long hv)]))
 refine o_lc X2 hx hby 0 q2_52 ?_
 refine o_lcmp X2 hx hby q2_53 ?_
 refine o_iy X2 hx hby q2_54 70 ((if0 _ _).trans (flt (fun q => absurd ((lw_gt _ _).mp q) P3)).2.2.2) ?_
 refine o_al X2 hx hby q2_70 ?_
 obtain ⟨T3, X3, e3, st3⟩ := own_getFR X2 hx hZ hown (own_w hw 161 rfl) e2 P7 (g := (mkF m 71 #[vR aR, vR aS, .unset] [(.ref aS)])) rfl rfl (hb hby q2_71)
 refine oS st3 ?_
 show oG _ _ _ _ (T3.setTop (mkF m 74 #[vR aR, vR aS, .unset] [(.int 0)]))
 refine o_in X3 hx hby q2_74 ((if0 _ _).trans (flt (by decide)).1) ?_
 refine o_al X3 hx hby q2_77 ?_
 refine o_g X3 hx hZ hown hw hby e3 P2 66 q2_78 fun T4 X4 e4 => ?_
 refine o_al X4 hx hby q2_81 ?_
 refine o_g X4 hx hZ hown hw hby e4 P2 66 q2_82 fun T5 X5 e5 => ?_
 refine o_cI (x := own_y47) X5 hx hZ hown hw hml hby (rm2 l Z a0 hw [] aL (1 : Int32) h0 n0 Z0 P10) P8 e5 162 163 164 165 166 167 168 169 170 44 1 q2_85 [] [(.ref aL)] pd_10 hy_6 fun v6 T6 L6 hQ6 X6 => ?_
 obtain ⟨rfl, Nq6, eq6⟩ := hQ6
 have N6 := Fr.app N0 Nq6
 refine oV ?_
 refine o_ic X6 hx hby 1 q2_90 ?_
 refine o_isub X6 hx hby q2_91 ?_
 rw [show (((1 : Int32) - (1 : Int32)) : Int32) = (0 : Int32) from by decide]
 refine o_cI (x := own_y45) X6 hx hZ hown hw hml hby (rm17 l Z a0 hw [] aL aA g mc aS h0 n0 Z0 P8 P10 P9 P11 P12 P13 P15 P16) P8 eq6 276 277 278 279 280 281 282 169 283 44 0 q2_92 [(.int 0)] [] pd_2 hy_6 fun v7 T7 L7 hQ7 X7 => ?_
 obtain ⟨gq8, rfl, Nq7, Kq7, p7_0, p7_1, p7_2, p7_3⟩ := hQ7
 have N7 := Fr.app N6 Nq7
 have f9 := P0.keep Kq7
 have f10 := P1.keep Kq7
 have wx11 : own_exs Z _ [aL, aA] ocl_1 := ⟨P8, P12.exa, trivial⟩
 have ni12 := own_nin P0 wx11 nc_2
 have f13 := P2.keep Kq7 ni12
 have ni14 := own_nin P1 wx11 nc_3
 have f15 := P4.keep Kq7 ni14
 have f16 := P5.keep Kq7 ni14
 have f17 := P6.keep Kq7 ni14
 have f18 := P7.keep Kq7 ni14
 have f19 := P8.keep Kq7
 have K20 := (Keep.refl h0 [aS, aL, aA]).trans Kq7 (allS (ow 1 rfl) (allS (ow 2 rfl) all0))
 have z21 := Nat.le_trans Z0 Kq7.1
 refine oV ?_
 obtain ⟨T22, X22, e22, st22⟩ := castY X7 hx hZ hown (own_w hw 92 rfl) rfl (Ins.self f10) (g := (mkF m 97 #[vR aR, vR aS, .unset] [(.ref aS)])) rfl rfl (hb hby q2_97)
 refine oS st22 ?_
 show oG _ _ _ _ (T22.setTop (mkF m 100 #[vR aR, vR aS, .unset] [(.ref aS)]))
 refine o_as X22 hx hby q2_100 #[vR aR, vR aS, vR aS] ?_
 refine o_al X22 hx hby q2_101 ?_
 refine o_al X22 hx hby q2_102 ?_
 refine o_ac X22 hx hby q2_103 125 true (decide_eq_true rfl) ?_
 refine o_al X22 hx hby q2_125 ?_
 refine o_ic X22 hx hby (-1) q2_126 ?_
 obtain ⟨T23, h23, X23, e23, W23, st23⟩ := own_putFR X22 hx hZ hown (own_w hw 161 rfl) e22 f18 f10 (own_w hw 102 rfl) (own_w hw 93 rfl) (ty := .int) ft_1 rfl rfl (g := (mkF m 127 #[vR aR, vR aS, vR aS] [(.int (-1)), (.ref aS)])) rfl rfl (hb hby q2_127)
 refine oS st23 ?_
 have N23 := Fr.snoc X23 N7 P14
 have Fw23 := f18.same W23
 have f24 := f9.wr W23
 have f25 := f10.wr W23
 have ne26 := own_neE f9 f10 ns_4
 have f27 := f13.other W23 (Or.inl ne26)
 have f28 := f15.other W23 (Or.inr (sn_6 hw))
 have f29 := f16.other W23 (Or.inr (sn_7 hw))
 have f30 := f17.other W23 (Or.inr (sn_8 hw))
 have f31 := f19.wr W23
 have ne32 := own_neE f19 f10 (Ne.symm ns_2)
 have f33 := p7_0.other W23 (Or.inl ne32)
 have f34 := p7_1.other W23 (Or.inl ne32)
 have f35 := p7_2.other W23 (Or.inl ne32)
 have ne36 := own_neE p7_3.exa f10 ns_1
 have f37 := p7_3.other W23 ne36
 have K38 := K20.wr W23 (ow 0 rfl)
 have z39 := Nat.le_trans z21 (Keep.of_wr W23).1
 show oG _ _ _ _ (T23.setTop (mkF m 130 #[vR aR, vR aS, vR aS] []))
 exact o_rv X23 hx hby hrt hlk q2_130 (by rw [e23]; exact ⟨gq8, (mc + (1 : Int32)), rfl, N23, K38, Fw23, f28, f29, f30, f33, f34, f35, f37⟩)
def Q32 (Z : State) (aR aS : Addr) (pb pn : Int64) (aL : Addr) (bd hv : Int64) (aD : Addr) (kD : ClassId) (h0 : Heap) (n0 : Nat) (v : Option Value) (h : Heap) (L : List Loc) : Prop := ∃ aA : Addr, ∃ gq : Nat → Value, v = some (.int 1) ∧ Fr n0 L ∧ Keep h0 h [aR, aS, aL] ∧ (h0.size ≤ aA) ∧ (own_Rm Z h aR aS aL aA bd (hv + pb) (0 : Int32) (1 : Int32)) ∧ (own_RO Z h aA (10 : Int32) gq) ∧ (gq (0 : Int32).toNatClampNeg = .ref aS)
set_option maxRecDepth 65536 in
set_option maxHeartbeats 40000000 in
theorem rm32 (l Z a0) (hw : oW a0 Z) (ws) (aR aS : Addr) (pb pn : Int64) (aL : Addr) (bd hv : Int64) (aD : Addr) (kD : ClassId) (h0 : Heap) (n0 : Nat) (Z0 : n0 ≤ h0.size) (P0 : own_Rm Z h0 aR aS aL aD bd hv (-1 : Int32) (0 : Int32)) (P1 : Old Z n0 h0) (P2 : Sta Z Z.heap "java/util/ArrayList" "DEFAULTCAPACITY_EMPTY_ELEMENTDATA" "[Ljava/lang/Object;" (.ref aD)) (P3 : Arv Z Z.heap aD kD (.object "java/lang/Object") (0 : Int32) [] .null) (P4 : ¬ bd < (hv + pb)) (P5 : (0 : Int64) < (hv + pb)) (P6 : n0 ≤ aR) (P7 : n0 ≤ aS) (P8 : n0 ≤ aL) :
   own_Met l own_y12 kc23 8 (some .boolean) ws own_r29 #[(.ref aR), (.ref aS), (.long pb), (.long pn)] Z h0 (Q32 Z aR aS pb pn aL bd hv aD kD h0 n0) := by
 refine own_bd #[vR aR, vR aS, vJ pb, .second, vJ pn, .second, .unset, .unset] (plainFor_of_name pn_5) fun p e s m below meth c s₁ hx hby hml hrt hlk hZ hown hnm X0 e0 => ?_
 have N0 := Fr.nil n0
 obtain ⟨mv, md, mc, u0_0, u0_1, u0_2, u0_3, u0_4, u0_5, u0_6, u0_7, u0_8, u0_9, u0_10, u0_11, u0_12, u0_13⟩ := P0
 refine o_al X0 hx hby q23_0 ?_
 refine o_al X0 hx hby q23_1 ?_
 refine o_ll X0 hx hby q23_2 ?_
 refine o_lw X0 hx hby q23_3 ?_
 refine o_cP X0 hx hZ hown hw hml hby (rm26 l Z a0 hw [] aR aS pb pn aL bd hv h0 n0 Z0 u0_0 u0_1 u0_3 u0_2 u0_10 u0_12) u0_0 e0 146 147 30 148 149 31 0 q23_5 [(.ref aS), (.long pb), (.long pn)] [] pd_15 hy_7 fun v1 T1 L1 hQ1 X1 => ?_
 obtain ⟨rfl, Nq1, eq1⟩ := hQ1
 have N1 := Fr.app N0 Nq1
 refine oV ?_
 refine o_asw X1 hx hby q23_8 #[vR aR, vR aS, vJ pb, .second, vJ pn, .second, .val .null, .unset] ?_
 refine o_aw X1 hx hby q23_10 ?_
 refine o_ny X1 hx hby q23_12 38 ?_
 refine o_al X1 hx hby q23_38 ?_
 refine o_g X1 hx hZ hown hw hby eq1 u0_3 150 q23_39 fun T2 X2 e2 => ?_
 refine o_ll X2 hx hby q23_42 ?_
 refine o_ladd X2 hx hby q23_43 ?_
 refine o_al X2 hx hby q23_44 ?_
 refine o_g X2 hx hZ hown hw hby e2 u0_1 68 q23_45 fun T3 X3 e3 => ?_
 refine o_lcmp X3 hx hby q23_48 ?_
 refine o_in X3 hx hby q23_49 ((if0 _ _).trans (flt (fun q => absurd ((lw_gt _ _).mp q) P4)).2.2.1) ?_
 refine o_ic X3 hx hby 1 q23_52 ?_
 refine o_gt X3 hx hby q23_53 57 ?_
 refine o_isw X3 hx hby q23_57 #[vR aR, vR aS, vJ pb, .second, vJ pn, .second, .val .null, vI 1] ?_
 refine o_iw X3 hx hby q23_59 ?_
 refine o_in X3 hx hby q23_61 ((if0 _ _).trans (feq (by decide)).1) ?_
 refine o_al X3 hx hby q23_64 ?_
 refine o_dup X3 hx hby q23_65 ?_
 refine o_g X3 hx hZ hown hw hby e3 u0_3 150 q23_66 fun T4 X4 e4 => ?_
 refine o_ll X4 hx hby q23_69 ?_
 refine o_ladd X4 hx hby q23_70 ?_
 refine o_pF X4 hx hZ hown hby (own_w hw 150 rfl) Via.refl e4 u0_3 u0_0 (Or.inl (own_w hw 151 rfl)) (own_w hw 30 rfl) ft_2 q23_71 fun T5 h5 X5 e5 W5 => ?_
 have N5 := Fr.snoc X5 N1 P6
 have Fw5 := u0_3.same W5
 have f6 := u0_0.wr W5
 have f7 := u0_1.other W5 (Or.inr (sn_9 hw))
 have f8 := u0_2.other W5 (Or.inr (sn_10 hw))
 have f9 := u0_4.other W5 (Or.inr (sn_11 hw))
 have f10 := u0_5.wr W5
 have ne11 := own_neE u0_5 u0_0 (Ne.symm ns_4)
 have f12 := u0_6.other W5 (Or.inl ne11)
 have f13 := u0_7.other W5 (Or.inl ne11)
 have f14 := u0_8.other W5 (Or.inl ne11)
 have f15 := u0_9.other W5 (Or.inl ne11)
 have f16 := u0_10.wr W5
 have ne17 := own_neE u0_10 u0_0 (Ne.symm ns_5)
 have f18 := u0_11.other W5 (Or.inl ne17)
 have f19 := u0_12.other W5 (Or.inl ne17)
 have f20 := u0_13.other W5 (Or.inl ne17)
 have f21 := P1.wr W5 P6
 have K22 := (Keep.refl h0 [aR, aS, aL]).wr W5 (ow 0 rfl)
 have z23 := Nat.le_trans Z0 (Keep.of_wr W5).1
 refine o_al X5 hx hby q23_74 ?_
 refine o_dup X5 hx hby q23_75 ?_
 obtain ⟨T24, X24, e24, st24⟩ := own_getFR X5 hx hZ hown (own_w hw 152 rfl) e5 f13 (g := (mkF m 76 #[vR aR, vR aS, vJ pb, .second, vJ pn, .second, .val .null, vI 1] [(.ref aS), (.ref aS)])) rfl rfl (hb hby q23_76)
 refine oS st24 ?_
 show oG _ _ _ _ (T24.setTop (mkF m 79 #[vR aR, vR aS, vJ pb, .second, vJ pn, .second, .val .null, vI 1] [(.long hv), (.ref aS)]))
 refine o_ll X24 hx hby q23_79 ?_
 refine o_ladd X24 hx hby q23_80 ?_
 obtain ⟨T25, h25, X25, e25, W25, st25⟩ := own_putFR X24 hx hZ hown (own_w hw 152 rfl) e24 f13 f10 (own_w hw 141 rfl) (own_w hw 93 rfl) (ty := .long) ft_2 rfl rfl (g := (mkF m 81 #[vR aR, vR aS, vJ pb, .second, vJ pn, .second, .val .null, vI 1] [(.long (hv + pb)), (.ref aS)])) rfl rfl (hb hby q23_81)
 refine oS st25 ?_
 have N25 := Fr.snoc X25 N5 P7
 have Fw25 := f13.same W25
 have f26 := f6.wr W25
 have f27 := f7.other W25 (Or.inl (Ne.symm ne11))
 have f28 := f8.other W25 (Or.inl (Ne.symm ne11))
 have f29 := f9.other W25 (Or.inl (Ne.symm ne11))
 have f30 := f10.wr W25
 have f31 := f12.other W25 (Or.inr (sn_12 hw))
 have f32 := f14.other W25 (Or.inr (sn_13 hw))
 have f33 := f15.other W25 (Or.inr (sn_14 hw))
 have f34 := f16.wr W25
 have ne35 := own_neE f16 f10 (Ne.symm ns_2)
 have f36 := f18.other W25 (Or.inl ne35)
 have f37 := f19.other W25 (Or.inl ne35)
 have f38 := f20.other W25 (Or.inl ne35)
 have f39 := f21.wr W25 P7
 have f40 := Fw5.other W25 (Or.inl (Ne.symm ne11))
 have K41 := K22.wr W25 (ow 1 rfl)
 have z42 := Nat.le_trans z23 (Keep.of_wr W25).1
 show oG _ _ _ _ (T25.setTop (mkF m 84 #[vR aR, vR aS, vJ pb, .second, vJ pn, .second, .val .null, vI 1] []))
 refine o_al X25 hx hby q23_84 ?_
 refine o_al X25 hx hby q23_85 ?_
 refine o_dup X25 hx hby q23_86 ?_
 refine o_g X25 hx hZ hown hw hby e25 f29 153 q23_87 fun T43 X43 e43 => ?_
 refine o_lc X43 hx hby 1 q23_90 ?_
 refine o_ladd X43 hx hby q23_91 ?_
 refine oS (fun _ κ => own_dup2x1 X43.here hx rfl (hb hby q23_92) rfl rfl κ) ?_
 show oG _ _ _ _ (T43.setTop (mkF m 93 #[vR aR, vR aS, vJ pb, .second, vJ pn, .second, .val .null, vI 1] [(.long (mv + (1 : Int64))), (.ref aR), (.long (mv + (1 : Int64))), (.ref aS)]))
 refine o_pF X43 hx hZ hown hby (own_w hw 153 rfl) Via.refl e43 f29 f26 (Or.inl (own_w hw 154 rfl)) (own_w hw 30 rfl) ft_2 q23_93 fun T44 h44 X44 e44 W44 => ?_
 have N44 := Fr.snoc X44 N25 P6
 have Fw44 := f29.same W44
 have f45 := f26.wr W44
 have f46 := f27.other W44 (Or.inr (sn_15 hw))
 have f47 := f28.other W44 (Or.inr (sn_16 hw))
 have f48 := f30.wr W44
 have f49 := f31.other W44 (Or.inl ne11)
 have f50 := f32.other W44 (Or.inl ne11)
 have f51 := f33.other W44 (Or.inl ne11)
 have f52 := f34.wr W44
 have f53 := f36.other W44 (Or.inl ne17)
 have f54 := f37.other W44 (Or.inl ne17)
 have f55 := f38.other W44 (Or.inl ne17)
 have f56 := f39.wr W44 P6
 have f57 := f40.other W44 (Or.inr (sn_17 hw))
 have f58 := Fw25.other W44 (Or.inl ne11)
 have K59 := K41.wr W44 (ow 0 rfl)
 have z60 := Nat.le_trans z42 (Keep.of_wr W44).1
 obtain ⟨T61, h61, X61, e61, W61, st61⟩ := own_putFR X44 hx hZ hown (own_w hw 155 rfl) e44 f50 f48 (own_w hw 156 rfl) (own_w hw 93 rfl) (ty := .long) ft_2 rfl rfl (g := (mkF m 96 #[vR aR, vR aS, vJ pb, .second, vJ pn, .second, .val .null, vI 1] [(.long (mv + (1 : Int64))), (.ref aS)])) rfl rfl (hb hby q23_96)
 refine oS st61 ?_
 have N61 := Fr.snoc X61 N44 P7
 have Fw61 := f50.same W61
 have f62 := f45.wr W61
 have f63 := f46.other W61 (Or.inl (Ne.symm ne11))
 have f64 := f47.other W61 (Or.inl (Ne.symm ne11))
 have f65 := f48.wr W61
 have f66 := f49.other W61 (Or.inr (sn_18 hw))
 have f67 := f51.other W61 (Or.inr (sn_19 hw))
 have f68 := f52.wr W61
 have f69 := f53.other W61 (Or.inl ne35)
 have f70 := f54.other W61 (Or.inl ne35)
 have f71 := f55.other W61 (Or.inl ne35)
 have f72 := f56.wr W61 P7
 have f73 := f57.other W61 (Or.inl (Ne.symm ne11))
 have f74 := f58.other W61 (Or.inr (sn_20 hw))
 have f75 := Fw44.other W61 (Or.inl (Ne.symm ne11))
 have K76 := K59.wr W61 (ow 1 rfl)
 have z77 := Nat.le_trans z60 (Keep.of_wr W61).1
 show oG _ _ _ _ (T61.setTop (mkF m 99 #[vR aR, vR aS, vJ pb, .second, vJ pn, .second, .val .null, vI 1] []))
 refine o_al X61 hx hby q23_99 ?_
 refine o_al X61 hx hby q23_100 ?_
 refine o_cP X61 hx hZ hown hw hml hby (rm28 l Z a0 hw [] aR aS aL (hv + pb) (mv + (1 : Int64)) mc aD kD h61 n0 z77 f62 f65 f64 P5 f74 Fw61 f66 f67 f68 f72 P2 P3 f69 f70 f71 P7 P8) f62 e61 157 158 30 159 160 31 0 q23_101 [(.ref aS)] [] pd_14 hy_7 fun v78 T78 L78 hQ78 X78 => ?_
 obtain ⟨aA79, gq80, mc281, rfl, Nq78, Kq78, p78_0, p78_1, p78_2, p78_3, p78_4, p78_5, p78_6, p78_7, p78_8, p78_9⟩ := hQ78
 have N78 := Fr.app N61 Nq78
 have ne82 : aR ≠ aA79 := Nat.ne_of_lt (Nat.lt_of_lt_of_le f62.lt p78_0)
 have ne83 : aS ≠ aA79 := Nat.ne_of_lt (Nat.lt_of_lt_of_le f65.lt p78_0)
 have ne84 : aL ≠ aA79 := Nat.ne_of_lt (Nat.lt_of_lt_of_le f68.lt p78_0)
 have ne85 : aD ≠ aA79 := Nat.ne_of_lt (Nat.lt_of_lt_of_le (P3.ext f72.2).lt p78_0)
 have ge86 : n0 ≤ aA79 := Nat.le_trans z77 p78_0
 have sz87 : h0.size ≤ aA79 := Nat.le_trans K76.1 p78_0
 have f88 := f62.keep Kq78
 have wx89 : own_exs Z _ [aS, aL] ocl_2 := ⟨f65, f68, trivial⟩
 have ni90 := own_nin f62 wx89 nc_4
 have f91 := f63.keep Kq78 ni90
 have f92 := f64.keep Kq78 ni90
 have f93 := f65.keep Kq78
 have f94 := f68.keep Kq78
 have f95 := f72.keep Kq78 (allS P7 (allS P8 all0))
 have f96 := f73.keep Kq78 ni90
 have f97 := f75.keep Kq78 ni90
 have K98 := K76.trans Kq78 (allS (ow 1 rfl) (allS (ow 2 rfl) all0))
 have z99 := Nat.le_trans z77 Kq78.1
 refine oN ?_
 refine o_iw X78 hx hby q23_104 ?_
 exact o_rZ X78 hx hby hrt hlk q23_106 ⟨aA79, gq80, rfl, N78, K98, sz87, ⟨_, _, _, f88, f91, f92, f96, f97, f93, p78_4, p78_2, p78_3, p78_1, f94, p78_5, p78_6, p78_7⟩, p78_8, p78_9⟩
def Q33 (Z : State) (aR aS : Addr) (pb pn : Int64) (aL : Addr) (bd hv : Int64) (aA : Addr) (g : Nat → Value) (h0 : Heap) (n0 : Nat) (v : Option Value) (h : Heap) (L : List Loc) : Prop := ∃ gq : Nat → Value, v = some (.int 1) ∧ Fr n0 L ∧ Keep h0 h [aR, aS, aL, aA] ∧ (own_Rm Z h aR aS aL aA bd (hv + pb) (0 : Int32) (1 : Int32)) ∧ (own_RO Z h aA (10 : Int32) gq) ∧ (gq (0 : Int32).toNatClampNeg = .ref aS)
set_option maxRecDepth 65536 in
set_option maxHeartbeats 40000000 in
theorem rm33 (l Z a0) (hw : oW a0 Z) (ws) (aR aS : Addr) (pb pn : Int64) (aL : Addr) (bd hv : Int64) (aA : Addr) (g : Nat → Value) (h0 : Heap) (n0 : Nat) (Z0 : n0 ≤ h0.size) (P0 : own_Rm Z h0 aR aS aL aA bd hv (-1 : Int32) (0 : Int32)) (P1 : own_RO Z h0 aA (10 : Int32) g) (P2 : ¬ bd < (hv + pb)) (P3 : (0 : Int64) < (hv + pb)) (P4 : n0 ≤ aR) (P5 : n0 ≤ aS) (P6 : n0 ≤ aL) (P7 : n0 ≤ aA) :
   own_Met l own_y12 kc23 8 (some .boolean) ws own_r27 #[(.ref aR), (.ref aS), (.long pb), (.long pn)] Z h0 (Q33 Z aR aS pb pn aL bd hv aA g h0 n0) := by
 refine own_bd #[vR aR, vR aS, vJ pb, .second, vJ pn, .second, .unset, .unset] (plainFor_of_name pn_5) fun p e s m below meth c s₁ hx hby hml hrt hlk hZ hown hnm X0 e0 => ?_
 have N0 := Fr.nil n0
 obtain ⟨mv, md, mc, u0_0, u0_1, u0_2, u0_3, u0_4, u0_5, u0_6, u0_7, u0_8, u0_9, u0_10, u0_11, u0_12, u0_13⟩ := P0
 refine o_al X0 hx hby q23_0 ?_
 refine o_al X0 hx hby q23_1 ?_
 refine o_ll X0 hx hby q23_2 ?_
 refine o_lw X0 hx hby q23_3 ?_
 refine o_cP X0 hx hZ hown hw hml hby (rm26 l Z a0 hw [] aR aS pb pn aL bd hv h0 n0 Z0 u0_0 u0_1 u0_3 u0_2 u0_10 u0_12) u0_0 e0 146 147 30 148 149 31 0 q23_5 [(.ref aS), (.long pb), (.long pn)] [] pd_15 hy_7 fun v1 T1 L1 hQ1 X1 => ?_
 obtain ⟨rfl, Nq1, eq1⟩ := hQ1
 have N1 := Fr.app N0 Nq1
 refine oV ?_
 refine o_asw X1 hx hby q23_8 #[vR aR, vR aS, vJ pb, .second, vJ pn, .second, .val .null, .unset] ?_
 refine o_aw X1 hx hby q23_10 ?_
 refine o_ny X1 hx hby q23_12 38 ?_
 refine o_al X1 hx hby q23_38 ?_
 refine o_g X1 hx hZ hown hw hby eq1 u0_3 150 q23_39 fun T2 X2 e2 => ?_
 refine o_ll X2 hx hby q23_42 ?_
 refine o_ladd X2 hx hby q23_43 ?_
 refine o_al X2 hx hby q23_44 ?_
 refine o_g X2 hx hZ hown hw hby e2 u0_1 68 q23_45 fun T3 X3 e3 => ?_
 refine o_lcmp X3 hx hby q23_48 ?_
 refine o_in X3 hx hby q23_49 ((if0 _ _).trans (flt (fun q => absurd ((lw_gt _ _).mp q) P2)).2.2.1) ?_
 refine o_ic X3 hx hby 1 q23_52 ?_
 refine o_gt X3 hx hby q23_53 57 ?_
 refine o_isw X3 hx hby q23_57 #[vR aR, vR aS, vJ pb, .second, vJ pn, .second, .val .null, vI 1] ?_
 refine o_iw X3 hx hby q23_59 ?_
 refine o_in X3 hx hby q23_61 ((if0 _ _).trans (feq (by decide)).1) ?_
 refine o_al X3 hx hby q23_64 ?_
 refine o_dup X3 hx hby q23_65 ?_
 refine o_g X3 hx hZ hown hw hby e3 u0_3 150 q23_66 fun T4 X4 e4 => ?_
 refine o_ll X4 hx hby q23_69 ?_
 refine o_ladd X4 hx hby q23_70 ?_
 refine o_pF X4 hx hZ hown hby (own_w hw 150 rfl) Via.refl e4 u0_3 u0_0 (Or.inl (own_w hw 151 rfl)) (own_w hw 30 rfl) ft_2 q23_71 fun T5 h5 X5 e5 W5 => ?_
 have N5 := Fr.snoc X5 N1 P4
 have Fw5 := u0_3.same W5
 have f6 := u0_0.wr W5
 have f7 := u0_1.other W5 (Or.inr (sn_9 hw))
 have f8 := u0_2.other W5 (Or.inr (sn_10 hw))
 have f9 := u0_4.other W5 (Or.inr (sn_11 hw))
 have f10 := u0_5.wr W5
 have ne11 := own_neE u0_5 u0_0 (Ne.symm ns_4)
 have f12 := u0_6.other W5 (Or.inl ne11)
 have f13 := u0_7.other W5 (Or.inl ne11)
 have f14 := u0_8.other W5 (Or.inl ne11)
 have f15 := u0_9.other W5 (Or.inl ne11)
 have f16 := u0_10.wr W5
 have ne17 := own_neE u0_10 u0_0 (Ne.symm ns_5)
 have f18 := u0_11.other W5 (Or.inl ne17)
 have f19 := u0_12.other W5 (Or.inl ne17)
 have f20 := u0_13.other W5 (Or.inl ne17)
 have ne21 := own_neE P1.exa u0_0 ns_3
 have f22 := P1.other W5 ne21
 have K23 := (Keep.refl h0 [aR, aS, aL, aA]).wr W5 (ow 0 rfl)
 have z24 := Nat.le_trans Z0 (Keep.of_wr W5).1
 refine o_al X5 hx hby q23_74 ?_
 refine o_dup X5 hx hby q23_75 ?_
 obtain ⟨T25, X25, e25, st25⟩ := own_getFR X5 hx hZ hown (own_w hw 152 rfl) e5 f13 (g := (mkF m 76 #[vR aR, vR aS, vJ pb, .second, vJ pn, .second, .val .null, vI 1] [(.ref aS), (.ref aS)])) rfl rfl (hb hby q23_76)
 refine oS st25 ?_
 show oG _ _ _ _ (T25.setTop (mkF m 79 #[vR aR, vR aS, vJ pb, .second, vJ pn, .second, .val .null, vI 1] [(.long hv), (.ref aS)]))
 refine o_ll X25 hx hby q23_79 ?_
 refine o_ladd X25 hx hby q23_80 ?_
 obtain ⟨T26, h26, X26, e26, W26, st26⟩ := own_putFR X25 hx hZ hown (own_w hw 152 rfl) e25 f13 f10 (own_w hw 141 rfl) (own_w hw 93 rfl) (ty := .long) ft_2 rfl rfl (g := (mkF m 81 #[vR aR, vR aS, vJ pb, .second, vJ pn, .second, .val .null, vI 1] [(.long (hv + pb)), (.ref aS)])) rfl rfl (hb hby q23_81)
 refine oS st26 ?_
 have N26 := Fr.snoc X26 N5 P5
 have Fw26 := f13.same W26
 have f27 := f6.wr W26
 have f28 := f7.other W26 (Or.inl (Ne.symm ne11))
 have f29 := f8.other W26 (Or.inl (Ne.symm ne11))
 have f30 := f9.other W26 (Or.inl (Ne.symm ne11))
 have f31 := f10.wr W26
 have f32 := f12.other W26 (Or.inr (sn_12 hw))
 have f33 := f14.other W26 (Or.inr (sn_13 hw))
 have f34 := f15.other W26 (Or.inr (sn_14 hw))
 have f35 := f16.wr W26
 have ne36 := own_neE f16 f10 (Ne.symm ns_2)
 have f37 := f18.other W26 (Or.inl ne36)
 have f38 := f19.other W26 (Or.inl ne36)
 have f39 := f20.other W26 (Or.inl ne36)
 have ne40 := own_neE f22.exa f10 ns_1
 have f41 := f22.other W26 ne40
 have f42 := Fw5.other W26 (Or.inl (Ne.symm ne11))
 have K43 := K23.wr W26 (ow 1 rfl)
 have z44 := Nat.le_trans z24 (Keep.of_wr W26).1
 show oG _ _ _ _ (T26.setTop (mkF m 84 #[vR aR, vR aS, vJ pb, .second, vJ pn, .second, .val .null, vI 1] []))
 refine o_al X26 hx hby q23_84 ?_
 refine o_al X26 hx hby q23_85 ?_
 refine o_dup X26 hx hby q23_86 ?_
 refine o_g X26 hx hZ hown hw hby e26 f30 153 q23_87 fun T45 X45 e45 => ?_
 refine o_lc X45 hx hby 1 q23_90 ?_
 refine o_ladd X45 hx hby q23_91 ?_
 refine oS (fun _ κ => own_dup2x1 X45.here hx rfl (hb hby q23_92) rfl rfl κ) ?_
 show oG _ _ _ _ (T45.setTop (mkF m 93 #[vR aR, vR aS, vJ pb, .second, vJ pn, .second, .val .null, vI 1] [(.long (mv + (1 : Int64))), (.ref aR), (.long (mv + (1 : Int64))), (.ref aS)]))
 refine o_pF X45 hx hZ hown hby (own_w hw 153 rfl) Via.refl e45 f30 f27 (Or.inl (own_w hw 154 rfl)) (own_w hw 30 rfl) ft_2 q23_93 fun T46 h46 X46 e46 W46 => ?_
 have N46 := Fr.snoc X46 N26 P4
 have Fw46 := f30.same W46
 have f47 := f27.wr W46
 have f48 := f28.other W46 (Or.inr (sn_15 hw))
 have f49 := f29.other W46 (Or.inr (sn_16 hw))
 have f50 := f31.wr W46
 have f51 := f32.other W46 (Or.inl ne11)
 have f52 := f33.other W46 (Or.inl ne11)
 have f53 := f34.other W46 (Or.inl ne11)
 have f54 := f35.wr W46
 have f55 := f37.other W46 (Or.inl ne17)
 have f56 := f38.other W46 (Or.inl ne17)
 have f57 := f39.other W46 (Or.inl ne17)
 have f58 := f41.other W46 ne21
 have f59 := f42.other W46 (Or.inr (sn_17 hw))
 have f60 := Fw26.other W46 (Or.inl ne11)
 have K61 := K43.wr W46 (ow 0 rfl)
 have z62 := Nat.le_trans z44 (Keep.of_wr W46).1
 obtain ⟨T63, h63, X63, e63, W63, st63⟩ := own_putFR X46 hx hZ hown (own_w hw 155 rfl) e46 f52 f50 (own_w hw 156 rfl) (own_w hw 93 rfl) (ty := .long) ft_2 rfl rfl (g := (mkF m 96 #[vR aR, vR aS, vJ pb, .second, vJ pn, .second, .val .null, vI 1] [(.long (mv + (1 : Int64))), (.ref aS)])) rfl rfl (hb hby q23_96)
 refine oS st63 ?_
 have N63 := Fr.snoc X63 N46 P5
 have Fw63 := f52.same W63
 have f64 := f47.wr W63
 have f65 := f48.other W63 (Or.inl (Ne.symm ne11))
 have f66 := f49.other W63 (Or.inl (Ne.symm ne11))
 have f67 := f50.wr W63
 have f68 := f51.other W63 (Or.inr (sn_18 hw))
 have f69 := f53.other W63 (Or.inr (sn_19 hw))
 have f70 := f54.wr W63
 have f71 := f55.other W63 (Or.inl ne36)
 have f72 := f56.other W63 (Or.inl ne36)
 have f73 := f57.other W63 (Or.inl ne36)
 have f74 := f58.other W63 ne40
 have f75 := f59.other W63 (Or.inl (Ne.symm ne11))
 have f76 := f60.other W63 (Or.inr (sn_20 hw))
 have f77 := Fw46.other W63 (Or.inl (Ne.symm ne11))
 have K78 := K61.wr W63 (ow 1 rfl)
 have z79 := Nat.le_trans z62 (Keep.of_wr W63).1
 show oG _ _ _ _ (T63.setTop (mkF m 99 #[vR aR, vR aS, vJ pb, .second, vJ pn, .second, .val .null, vI 1] []))
 refine o_al X63 hx hby q23_99 ?_
 refine o_al X63 hx hby q23_100 ?_
 refine o_cP X63 hx hZ hown hw hml hby (rm29 l Z a0 hw [] aR aS aL (hv + pb) (mv + (1 : Int64)) mc aA g h63 n0 z79 f64 f67 f66 P3 f76 Fw63 f68 f69 f70 f71 f72 f73 f74 P5 P6 P7) f64 e63 157 158 30 159 160 31 0 q23_101 [(.ref aS)] [] pd_14 hy_7 fun v80 T80 L80 hQ80 X80 => ?_
 obtain ⟨gq81, mc282, rfl, Nq80, Kq80, p80_0, p80_1, p80_2, p80_3, p80_4, p80_5, p80_6, p80_7, p80_8⟩ := hQ80
 have N80 := Fr.app N63 Nq80
 have f83 := f64.keep Kq80
 have wx84 : own_exs Z _ [aS, aL, aA] ocl_3 := ⟨f67, f70, f74.exa, trivial⟩
 have ni85 := own_nin f64 wx84 nc_5
 have f86 := f65.keep Kq80 ni85
 have f87 := f66.keep Kq80 ni85
 have f88 := f67.keep Kq80
 have f89 := f70.keep Kq80
 have f90 := f75.keep Kq80 ni85
 have f91 := f77.keep Kq80 ni85
 have K92 := K78.trans Kq80 (allS (ow 1 rfl) (allS (ow 2 rfl) (allS (ow 3 rfl) all0)))
 have z93 := Nat.le_trans z79 Kq80.1
 refine oN ?_
 refine o_iw X80 hx hby q23_104 ?_
 exact o_rZ X80 hx hby hrt hlk q23_106 ⟨gq81, rfl, N80, K92, ⟨_, _, _, f83, f86, f87, f90, f91, f88, p80_3, p80_1, p80_2, p80_0, f89, p80_4, p80_5, p80_6⟩, p80_7, p80_8⟩
def Q34 (Z : State) (aR aS : Addr) (pb pn : Int64) (aL : Addr) (bd hv : Int64) (aA : Addr) (g : Nat → Value) (h0 : Heap) (n0 : Nat) (v : Option Value) (h : Heap) (L : List Loc) : Prop := ∃ gq : Nat → Value, v = some (.int 1) ∧ Fr n0 L ∧ Keep h0 h [aR, aS, aL, aA] ∧ (own_Rm Z h aR aS aL aA bd (hv + pb) (0 : Int32) (1 : Int32)) ∧ (own_RO Z h aA (10 : Int32) gq) ∧ (gq (0 : Int32).toNatClampNeg = .ref aS)
set_option maxRecDepth 65536 in
set_option maxHeartbeats 40000000 in
theorem rm34 (l Z a0) (hw : oW a0 Z) (ws) (aR aS : Addr) (pb pn : Int64) (aL : Addr) (bd hv : Int64) (aA : Addr) (g : Nat → Value) (h0 : Heap) (n0 : Nat) (Z0 : n0 ≤ h0.size) (P0 : own_Rm Z h0 aR aS aL aA bd hv (0 : Int32) (1 : Int32)) (P1 : own_RO Z h0 aA (10 : Int32) g) (P2 : g (0 : Int32).toNatClampNeg = .ref aS) (P3 : ¬ bd < (hv + pb)) (P4 : (0 : Int64) < (hv + pb)) (P5 : n0 ≤ aR) (P6 : n0 ≤ aS) (P7 : n0 ≤ aL) (P8 : n0 ≤ aA) :
   own_Met l own_y12 kc23 8 (some .boolean) ws own_r27 #[(.ref aR), (.ref aS), (.long pb), (.long pn)] Z h0 (Q34 Z aR aS pb pn aL bd hv aA g h0 n0) := by
 refine own_bd #[vR aR, vR aS, vJ pb, .second, vJ pn, .second, .unset, .unset] (plainFor_of_name pn_5) fun p e s m below meth c s₁ hx hby hml hrt hlk hZ hown hnm X0 e0 => ?_
 have N0 := Fr.nil n0
 obtain ⟨mv, md, mc, u0_0, u0_1, u0_2, u0_3, u0_4, u0_5, u0_6, u0_7, u0_8, u0_9, u0_10, u0_11, u0_12, u0_13⟩ := P0
 refine o_al X0 hx hby q23_0 ?_
 refine o_al X0 hx hby q23_1 ?_
 refine o_ll X0 hx hby q23_2 ?_
 refine o_lw X0 hx hby q23_3 ?_
 refine o_cP X0 hx hZ hown hw hml hby (rm27 l Z a0 hw [] aR aS pb pn aL aA g bd hv h0 n0 Z0 u0_0 u0_1 u0_3 u0_5 u0_2 u0_10 u0_11 u0_12 P1 P2) u0_0 e0 146 147 30 148 149 31 0 q23_5 [(.ref aS), (.long pb), (.long pn)] [] pd_15 hy_7 fun v1 T1 L1 hQ1 X1 => ?_
 obtain ⟨rfl, Nq1, eq1⟩ := hQ1
 have N1 := Fr.app N0 Nq1
 refine oV ?_
 refine o_asw X1 hx hby q23_8 #[vR aR, vR aS, vJ pb, .second, vJ pn, .second, .val .null, .unset] ?_
 refine o_aw X1 hx hby q23_10 ?_
 refine o_ny X1 hx hby q23_12 38 ?_
 refine o_al X1 hx hby q23_38 ?_
 refine o_g X1 hx hZ hown hw hby eq1 u0_3 150 q23_39 fun T2 X2 e2 => ?_
 refine o_ll X2 hx hby q23_42 ?_
 refine o_ladd X2 hx hby q23_43 ?_
 refine o_al X2 hx hby q23_44 ?_
 refine o_g X2 hx hZ hown hw hby e2 u0_1 68 q23_45 fun T3 X3 e3 => ?_
 refine o_lcmp X3 hx hby q23_48 ?_
 refine o_in X3 hx hby q23_49 ((if0 _ _).trans (flt (fun q => absurd ((lw_gt _ _).mp q) P3)).2.2.1) ?_
 refine o_ic X3 hx hby 1 q23_52 ?_
 refine o_gt X3 hx hby q23_53 57 ?_
 refine o_isw X3 hx hby q23_57 #[vR aR, vR aS, vJ pb, .second, vJ pn, .second, .val .null, vI 1] ?_
 refine o_iw X3 hx hby q23_59 ?_
 refine o_in X3 hx hby q23_61 ((if0 _ _).trans (feq (by decide)).1) ?_
 refine o_al X3 hx hby q23_64 ?_
 refine o_dup X3 hx hby q23_65 ?_
 refine o_g X3 hx hZ hown hw hby e3 u0_3 150 q23_66 fun T4 X4 e4 => ?_
 refine o_ll X4 hx hby q23_69 ?_
 refine o_ladd X4 hx hby q23_70 ?_
 refine o_pF X4 hx hZ hown hby (own_w hw 150 rfl) Via.refl e4 u0_3 u0_0 (Or.inl (own_w hw 151 rfl)) (own_w hw 30 rfl) ft_2 q23_71 fun T5 h5 X5 e5 W5 => ?_
 have N5 := Fr.snoc X5 N1 P5
 have Fw5 := u0_3.same W5
 have f6 := u0_0.wr W5
 have f7 := u0_1.other W5 (Or.inr (sn_9 hw))
 have f8 := u0_2.other W5 (Or.inr (sn_10 hw))
 have f9 := u0_4.other W5 (Or.inr (sn_11 hw))
 have f10 := u0_5.wr W5
 have ne11 := own_neE u0_5 u0_0 (Ne.symm ns_4)
 have f12 := u0_6.other W5 (Or.inl ne11)
 have f13 := u0_7.other W5 (Or.inl ne11)
 have f14 := u0_8.other W5 (Or.inl ne11)
 have f15 := u0_9.other W5 (Or.inl ne11)
 have f16 := u0_10.wr W5
 have ne17 := own_neE u0_10 u0_0 (Ne.symm ns_5)
 have f18 := u0_11.other W5 (Or.inl ne17)
 have f19 := u0_12.other W5 (Or.inl ne17)
 have f20 := u0_13.other W5 (Or.inl ne17)
 have ne21 := own_neE P1.exa u0_0 ns_3
 have f22 := P1.other W5 ne21
 have K23 := (Keep.refl h0 [aR, aS, aL, aA]).wr W5 (ow 0 rfl)
 have z24 := Nat.le_trans Z0 (Keep.of_wr W5).1
 refine o_al X5 hx hby q23_74 ?_
 refine o_dup X5 hx hby q23_75 ?_
 obtain ⟨T25, X25, e25, st25⟩ := own_getFR X5 hx hZ hown (own_w hw 152 rfl) e5 f13 (g := (mkF m 76 #[vR aR, vR aS, vJ pb, .second, vJ pn, .second, .val .null, vI 1] [(.ref aS), (.ref aS)])) rfl rfl (hb hby q23_76)
 refine oS st25 ?_
 show oG _ _ _ _ (T25.setTop (mkF m 79 #[vR aR, vR aS, vJ pb, .second, vJ pn, .second, .val .null, vI 1] [(.long hv), (.ref aS)]))
 refine o_ll X25 hx hby q23_79 ?_
 refine o_ladd X25 hx hby q23_80 ?_
 obtain ⟨T26, h26, X26, e26, W26, st26⟩ := own_putFR X25 hx hZ hown (own_w hw 152 rfl) e25 f13 f10 (own_w hw 141 rfl) (own_w hw 93 rfl) (ty := .long) ft_2 rfl rfl (g := (mkF m 81 #[vR aR, vR aS, vJ pb, .second, vJ pn, .second, .val .null, vI 1] [(.long (hv + pb)), (.ref aS)])) rfl rfl (hb hby q23_81)
 refine oS st26 ?_
 have N26 := Fr.snoc X26 N5 P6
 have Fw26 := f13.same W26
 have f27 := f6.wr W26
 have f28 := f7.other W26 (Or.inl (Ne.symm ne11))
 have f29 := f8.other W26 (Or.inl (Ne.symm ne11))
 have f30 := f9.other W26 (Or.inl (Ne.symm ne11))
 have f31 := f10.wr W26
 have f32 := f12.other W26 (Or.inr (sn_12 hw))
 have f33 := f14.other W26 (Or.inr (sn_13 hw))
 have f34 := f15.other W26 (Or.inr (sn_14 hw))
 have f35 := f16.wr W26
 have ne36 := own_neE f16 f10 (Ne.symm ns_2)
 have f37 := f18.other W26 (Or.inl ne36)
 have f38 := f19.other W26 (Or.inl ne36)
 have f39 := f20.other W26 (Or.inl ne36)
 have ne40 := own_neE f22.exa f10 ns_1
 have f41 := f22.other W26 ne40
 have f42 := Fw5.other W26 (Or.inl (Ne.symm ne11))
 have K43 := K23.wr W26 (ow 1 rfl)
 have z44 := Nat.le_trans z24 (Keep.of_wr W26).1
 show oG _ _ _ _ (T26.setTop (mkF m 84 #[vR aR, vR aS, vJ pb, .second, vJ pn, .second, .val .null, vI 1] []))
 refine o_al X26 hx hby q23_84 ?_
 refine o_al X26 hx hby q23_85 ?_
 refine o_dup X26 hx hby q23_86 ?_
 refine o_g X26 hx hZ hown hw hby e26 f30 153 q23_87 fun T45 X45 e45 => ?_
 refine o_lc X45 hx hby 1 q23_90 ?_
 refine o_ladd X45 hx hby q23_91 ?_
 refine oS (fun _ κ => own_dup2x1 X45.here hx rfl (hb hby q23_92) rfl rfl κ) ?_
 show oG _ _ _ _ (T45.setTop (mkF m 93 #[vR aR, vR aS, vJ pb, .second, vJ pn, .second, .val .null, vI 1] [(.long (mv + (1 : Int64))), (.ref aR), (.long (mv + (1 : Int64))), (.ref aS)]))
 refine o_pF X45 hx hZ hown hby (own_w hw 153 rfl) Via.refl e45 f30 f27 (Or.inl (own_w hw 154 rfl)) (own_w hw 30 rfl) ft_2 q23_93 fun T46 h46 X46 e46 W46 => ?_
 have N46 := Fr.snoc X46 N26 P5
 have Fw46 := f30.same W46
 have f47 := f27.wr W46
 have f48 := f28.other W46 (Or.inr (sn_15 hw))
 have f49 := f29.other W46 (Or.inr (sn_16 hw))
 have f50 := f31.wr W46
 have f51 := f32.other W46 (Or.inl ne11)
 have f52 := f33.other W46 (Or.inl ne11)
 have f53 := f34.other W46 (Or.inl ne11)
 have f54 := f35.wr W46
 have f55 := f37.other W46 (Or.inl ne17)
 have f56 := f38.other W46 (Or.inl ne17)
 have f57 := f39.other W46 (Or.inl ne17)
 have f58 := f41.other W46 ne21
 have f59 := f42.other W46 (Or.inr (sn_17 hw))
 have f60 := Fw26.other W46 (Or.inl ne11)
 have K61 := K43.wr W46 (ow 0 rfl)
 have z62 := Nat.le_trans z44 (Keep.of_wr W46).1
 obtain ⟨T63, h63, X63, e63, W63, st63⟩ := own_putFR X46 hx hZ hown (own_w hw 155 rfl) e46 f52 f50 (own_w hw 156 rfl) (own_w hw 93 rfl) (ty := .long) ft_2 rfl rfl (g := (mkF m 96 #[vR aR, vR aS, vJ pb, .second, vJ pn, .second, .val .null, vI 1] [(.long (mv + (1 : Int64))), (.ref aS)])) rfl rfl (hb hby q23_96)
 refine oS st63 ?_
 have N63 := Fr.snoc X63 N46 P6
 have Fw63 := f52.same W63
 have f64 := f47.wr W63
 have f65 := f48.other W63 (Or.inl (Ne.symm ne11))
 have f66 := f49.other W63 (Or.inl (Ne.symm ne11))
 have f67 := f50.wr W63
 have f68 := f51.other W63 (Or.inr (sn_18 hw))
 have f69 := f53.other W63 (Or.inr (sn_19 hw))
 have f70 := f54.wr W63
 have f71 := f55.other W63 (Or.inl ne36)
 have f72 := f56.other W63 (Or.inl ne36)
 have f73 := f57.other W63 (Or.inl ne36)
 have f74 := f58.other W63 ne40
 have f75 := f59.other W63 (Or.inl (Ne.symm ne11))
 have f76 := f60.other W63 (Or.inr (sn_20 hw))
 have f77 := Fw46.other W63 (Or.inl (Ne.symm ne11))
 have K78 := K61.wr W63 (ow 1 rfl)
 have z79 := Nat.le_trans z62 (Keep.of_wr W63).1
 show oG _ _ _ _ (T63.setTop (mkF m 99 #[vR aR, vR aS, vJ pb, .second, vJ pn, .second, .val .null, vI 1] []))
 refine o_al X63 hx hby q23_99 ?_
 refine o_al X63 hx hby q23_100 ?_
 refine o_cP X63 hx hZ hown hw hml hby (rm30 l Z a0 hw [] aR aS aL (hv + pb) (mv + (1 : Int64)) mc aA g h63 n0 z79 f64 f67 f66 P4 f76 Fw63 f68 f69 f70 f71 f72 f73 f74 P2 P6 P7 P8) f64 e63 157 158 30 159 160 31 0 q23_101 [(.ref aS)] [] pd_14 hy_7 fun v80 T80 L80 hQ80 X80 => ?_
 obtain ⟨gq81, mc282, rfl, Nq80, Kq80, p80_0, p80_1, p80_2, p80_3, p80_4, p80_5, p80_6, p80_7, p80_8⟩ := hQ80
 have N80 := Fr.app N63 Nq80
 have f83 := f64.keep Kq80
 have wx84 : own_exs Z _ [aS, aL, aA] ocl_3 := ⟨f67, f70, f74.exa, trivial⟩
 have ni85 := own_nin f64 wx84 nc_5
 have f86 := f65.keep Kq80 ni85
 have f87 := f66.keep Kq80 ni85
 have f88 := f67.keep Kq80
 have f89 := f70.keep Kq80
 have f90 := f75.keep Kq80 ni85
 have f91 := f77.keep Kq80 ni85
 have K92 := K78.trans Kq80 (allS (ow 1 rfl) (allS (ow 2 rfl) (allS (ow 3 rfl) all0)))
 have z93 := Nat.le_trans z79 Kq80.1
 refine oN ?_
 refine o_iw X80 hx hby q23_104 ?_
 exact o_rZ X80 hx hby hrt hlk q23_106 ⟨gq81, rfl, N80, K92, ⟨_, _, _, f83, f86, f87, f90, f91, f88, p80_3, p80_1, p80_2, p80_0, f89, p80_4, p80_5, p80_6⟩, p80_7, p80_8⟩
def Q35 (Z : State) (aR aS : Addr) (pb pn : Int64) (aL : Addr) (bd hv : Int64) (aD : Addr) (kD : ClassId) (h0 : Heap) (n0 : Nat) (v : Option Value) (h : Heap) (L : List Loc) : Prop := v = some (.int 0) ∧ Fr n0 L ∧ h = h0
set_option maxRecDepth 65536 in
set_option maxHeartbeats 40000000 in
theorem rm35 (l Z a0) (hw : oW a0 Z) (ws) (aR aS : Addr) (pb pn : Int64) (aL : Addr) (bd hv : Int64) (aD : Addr) (kD : ClassId) (h0 : Heap) (n0 : Nat) (Z0 : n0 ≤ h0.size) (P0 : own_Rm Z h0 aR aS aL aD bd hv (-1 : Int32) (0 : Int32)) (P1 : Old Z n0 h0) (P2 : Sta Z Z.heap "java/util/ArrayList" "DEFAULTCAPACITY_EMPTY_ELEMENTDATA" "[Ljava/lang/Object;" (.ref aD)) (P3 : Arv Z Z.heap aD kD (.object "java/lang/Object") (0 : Int32) [] .null) (P4 : bd < (hv + pb)) :
   own_Met l own_y12 kc23 8 (some .boolean) ws own_r16 #[(.ref aR), (.ref aS), (.long pb), (.long pn)] Z h0 (Q35 Z aR aS pb pn aL bd hv aD kD h0 n0) := by
 refine own_bd #[vR aR, vR aS, vJ pb, .second, vJ pn, .second, .unset, .unset] (plainFor_of_name pn_5) fun p e s m below meth c s₁ hx hby hml hrt hlk hZ hown hnm X0 e0 => ?_
 have N0 := Fr.nil n0
 obtain ⟨mv, md, mc, u0_0, u0_1, u0_2, u0_3, u0_4, u0_5, u0_6, u0_7, u0_8, u0_9, u0_10, u0_11, u0_12, u0_13⟩ := P0
 refine o_al X0 hx hby q23_0 ?_
 refine o_al X0 hx hby q23_1 ?_
 refine o_ll X0 hx hby q23_2 ?_
 refine o_lw X0 hx hby q23_3 ?_
 refine o_cP X0 hx hZ hown hw hml hby (rm26 l Z a0 hw [] aR aS pb pn aL bd hv h0 n0 Z0 u0_0 u0_1 u0_3 u0_2 u0_10 u0_12) u0_0 e0 146 147 30 148 149 31 0 q23_5 [(.ref aS), (.long pb), (.long pn)] [] pd_15 hy_7 fun v1 T1 L1 hQ1 X1 => ?_
 obtain ⟨rfl, Nq1, eq1⟩ := hQ1
 have N1 := Fr.app N0 Nq1
 refine oV ?_
 refine o_asw X1 hx hby q23_8 #[vR aR, vR aS, vJ pb, .second, vJ pn, .second, .val .null, .unset] ?_
 refine o_aw X1 hx hby q23_10 ?_
 refine o_ny X1 hx hby q23_12 38 ?_
 refine o_al X1 hx hby q23_38 ?_
 refine o_g X1 hx hZ hown hw hby eq1 u0_3 150 q23_39 fun T2 X2 e2 => ?_
 refine o_ll X2 hx hby q23_42 ?_
 refine o_ladd X2 hx hby q23_43 ?_
 refine o_al X2 hx hby q23_44 ?_
 refine o_g X2 hx hZ hown hw hby e2 u0_1 68 q23_45 fun T3 X3 e3 => ?_
 refine o_lcmp X3 hx hby q23_48 ?_
 refine o_iy X3 hx hby q23_49 56 ((if0 _ _).trans (tlt ((lw_gt _ _).mpr P4)).2.2.1) ?_
 refine o_ic X3 hx hby 0 q23_56 ?_
 refine o_isw X3 hx hby q23_57 #[vR aR, vR aS, vJ pb, .second, vJ pn, .second, .val .null, vI 0] ?_
 refine o_iw X3 hx hby q23_59 ?_
 refine o_iy X3 hx hby q23_61 104 ((if0 _ _).trans (teq rfl).1) ?_
 refine o_iw X3 hx hby q23_104 ?_
 exact o_rZ X3 hx hby hrt hlk q23_106 (by rw [e3]; exact ⟨rfl, N1, rfl⟩)
def Q36 (Z : State) (aR aS : Addr) (pb pn : Int64) (aL : Addr) (bd hv : Int64) (aA : Addr) (g : Nat → Value) (h0 : Heap) (n0 : Nat) (v : Option Value) (h : Heap) (L : List Loc) : Prop := v = some (.int 0) ∧ Fr n0 L ∧ h = h0
set_option maxRecDepth 65536 in
set_option maxHeartbeats 40000000 in
theorem rm36 (l Z a0) (hw : oW a0 Z) (ws) (aR aS : Addr) (pb pn : Int64) (aL : Addr) (bd hv : Int64) (aA : Addr) (g : Nat → Value) (h0 : Heap) (n0 : Nat) (Z0 : n0 ≤ h0.size) (P0 : own_Rm Z h0 aR aS aL aA bd hv (-1 : Int32) (0 : Int32)) (P1 : own_RO Z h0 aA (10 : Int32) g) (P2 : bd < (hv + pb)) :
   own_Met l own_y12 kc23 8 (some .boolean) ws own_r16 #[(.ref aR), (.ref aS), (.long pb), (.long pn)] Z h0 (Q36 Z aR aS pb pn aL bd hv aA g h0 n0) := by
 refine own_bd #[vR aR, vR aS, vJ pb, .second, vJ pn, .second, .unset, .unset] (plainFor_of_name pn_5) fun p e s m below meth c s₁ hx hby hml hrt hlk hZ hown hnm X0 e0 => ?_
 have N0 := Fr.nil n0
 obtain ⟨mv, md, mc, u0_0, u0_1, u0_2, u0_3, u0_4, u0_5, u0_6, u0_7, u0_8, u0_9, u0_10, u0_11, u0_12, u0_13⟩ := P0
 refine o_al X0 hx hby q23_0 ?_
 refine o_al X0 hx hby q23_1 ?_
 refine o_ll X0 hx hby q23_2 ?_
 refine o_lw X0 hx hby q23_3 ?_
 refine o_cP X0 hx hZ hown hw hml hby (rm26 l Z a0 hw [] aR aS pb pn aL bd hv h0 n0 Z0 u0_0 u0_1 u0_3 u0_2 u0_10 u0_12) u0_0 e0 146 147 30 148 149 31 0 q23_5 [(.ref aS), (.long pb), (.long pn)] [] pd_15 hy_7 fun v1 T1 L1 hQ1 X1 => ?_
 obtain ⟨rfl, Nq1, eq1⟩ := hQ1
 have N1 := Fr.app N0 Nq1
 refine oV ?_
 refine o_asw X1 hx hby q23_8 #[vR aR, vR aS, vJ pb, .second, vJ pn, .second, .val .null, .unset] ?_
 refine o_aw X1 hx hby q23_10 ?_
 refine o_ny X1 hx hby q23_12 38 ?_
 refine o_al X1 hx hby q23_38 ?_
 refine o_g X1 hx hZ hown hw hby eq1 u0_3 150 q23_39 fun T2 X2 e2 => ?_
 refine o_ll X2 hx hby q23_42 ?_
 refine o_ladd X2 hx hby q23_43 ?_
 refine o_al X2 hx hby q23_44 ?_
 refine o_g X2 hx hZ hown hw hby e2 u0_1 68 q23_45 fun T3 X3 e3 => ?_
 refine o_lcmp X3 hx hby q23_48 ?_
 refine o_iy X3 hx hby q23_49 56 ((if0 _ _).trans (tlt ((lw_gt _ _).mpr P2)).2.2.1) ?_
 refine o_ic X3 hx hby 0 q23_56 ?_
 refine o_isw X3 hx hby q23_57 #[vR aR, vR aS, vJ pb, .second, vJ pn, .second, .val .null, vI 0] ?_
 refine o_iw X3 hx hby q23_59 ?_
 refine o_iy X3 hx hby q23_61 104 ((if0 _ _).trans (teq rfl).1) ?_
 refine o_iw X3 hx hby q23_104 ?_
 exact o_rZ X3 hx hby hrt hlk q23_106 (by rw [e3]; exact ⟨rfl, N1, rfl⟩)
def Q37 (Z : State) (aR aS : Addr) (pb pn : Int64) (aL : Addr) (bd hv : Int64) (aA : Addr) (g : Nat → Value) (h0 : Heap) (n0 : Nat) (v : Option Value) (h : Heap) (L : List Loc) : Prop := v = some (.int 0) ∧ Fr n0 L ∧ h = h0
set_option maxRecDepth 65536 in
set_option maxHeartbeats 40000000 in
theorem rm37 (l Z a0) (hw : oW a0 Z) (ws) (aR aS : Addr) (pb pn : Int64) (aL : Addr) (bd hv : Int64) (aA : Addr) (g : Nat → Value) (h0 : Heap) (n0 : Nat) (Z0 : n0 ≤ h0.size) (P0 : own_Rm Z h0 aR aS aL aA bd hv (0 : Int32) (1 : Int32)) (P1 : own_RO Z h0 aA (10 : Int32) g) (P2 : g (0 : Int32).toNatClampNeg = .ref aS) (P3 : bd < (hv + pb)) :
   own_Met l own_y12 kc23 8 (some .boolean) ws own_r24 #[(.ref aR), (.ref aS), (.long pb), (.long pn)] Z h0 (Q37 Z aR aS pb pn aL bd hv aA g h0 n0) := by
 refine own_bd #[vR aR, vR aS, vJ pb, .second, vJ pn, .second, .unset, .unset] (plainFor_of_name pn_5) fun p e s m below meth c s₁ hx hby hml hrt hlk hZ hown hnm X0 e0 => ?_
 have N0 := Fr.nil n0
 obtain ⟨mv, md, mc, u0_0, u0_1, u0_2, u0_3, u0_4, u0_5, u0_6, u0_7, u0_8, u0_9, u0_10, u0_11, u0_12, u0_13⟩ := P0
 refine o_al X0 hx hby q23_0 ?_
 refine o_al X0 hx hby q23_1 ?_
 refine o_ll X0 hx hby q23_2 ?_
 refine o_lw X0 hx hby q23_3 ?_
 refine o_cP X0 hx hZ hown hw hml hby (rm27 l Z a0 hw [] aR aS pb pn aL aA g bd hv h0 n0 Z0 u0_0 u0_1 u0_3 u0_5 u0_2 u0_10 u0_11 u0_12 P1 P2) u0_0 e0 146 147 30 148 149 31 0 q23_5 [(.ref aS), (.long pb), (.long pn)] [] pd_15 hy_7 fun v1 T1 L1 hQ1 X1 => ?_
 obtain ⟨rfl, Nq1, eq1⟩ := hQ1
 have N1 := Fr.app N0 Nq1
 refine oV ?_
 refine o_asw X1 hx hby q23_8 #[vR aR, vR aS, vJ pb, .second, vJ pn, .second, .val .null, .unset] ?_
 refine o_aw X1 hx hby q23_10 ?_
 refine o_ny X1 hx hby q23_12 38 ?_
 refine o_al X1 hx hby q23_38 ?_
 refine o_g X1 hx hZ hown hw hby eq1 u0_3 150 q23_39 fun T2 X2 e2 => ?_
 refine o_ll X2 hx hby q23_42 ?_
 refine o_ladd X2 hx hby q23_43 ?_
 refine o_al X2 hx hby q23_44 ?_
 refine o_g X2 hx hZ hown hw hby e2 u0_1 68 q23_45 fun T3 X3 e3 => ?_
 refine o_lcmp X3 hx hby q23_48 ?_
 refine o_iy X3 hx hby q23_49 56 ((if0 _ _).trans (tlt ((lw_gt _ _).mpr P3)).2.2.1) ?_
 refine o_ic X3 hx hby 0 q23_56 ?_
 refine o_isw X3 hx hby q23_57 #[vR aR, vR aS, vJ pb, .second, vJ pn, .second, .val .null, vI 0] ?_
 refine o_iw X3 hx hby q23_59 ?_
 refine o_iy X3 hx hby q23_61 104 ((if0 _ _).trans (teq rfl).1) ?_
 refine o_iw X3 hx hby q23_104 ?_
 exact o_rZ X3 hx hby hrt hlk q23_106 (by rw [e3]; exact ⟨rfl, N1, rfl⟩)
def Q38 (Z : State) (aR aS : Addr) (pb : Int64) (aL : Addr) (bd hv : Int64) (aA : Addr) (g : Nat → Value) (h0 : Heap) (n0 : Nat) (v : Option Value) (h : Heap) (L : List Loc) : Prop := ∃ gq : Nat → Value, v = none ∧ Fr n0 L ∧ Keep h0 h [aR, aS, aL, aA] ∧ (own_Rm Z h aR aS aL aA bd (hv - pb) (0 : Int32) (1 : Int32)) ∧ (own_RO Z h aA (10 : Int32) gq) ∧ (gq (0 : Int32).toNatClampNeg = .ref aS)
set_option maxRecDepth 65536 in
set_option maxHeartbeats 40000000 in
theorem rm38 (l Z a0) (hw : oW a0 Z) (ws) (aR aS : Addr) (pb : Int64) (aL : Addr) (bd hv : Int64) (aA : Addr) (g : Nat → Value) (h0 : Heap) (n0 : Nat) (Z0 : n0 ≤ h0.size) (P0 : own_Rm Z h0 aR aS aL aA bd hv (0 : Int32) (1 : Int32)) (P1 : own_RO Z h0 aA (10 : Int32) g) (P2 : g (0 : Int32).toNatClampNeg = .ref aS) (P3 : (0 : Int64) < (hv - pb)) (P4 : n0 ≤ aR) (P5 : n0 ≤ aS) (P6 : n0 ≤ aL) (P7 : n0 ≤ aA) :
   own_Met l own_y6 kc5 4 none ws own_r27 #[(.ref aR), (.ref aS), (.long pb)] Z h0 (Q38 Z aR aS pb aL bd hv aA g h0 n0) := by
 refine own_bd #[vR aR, vR aS, vJ pb, .second] (plainFor_of_name pn_5) fun p e s m below meth c s₁ hx hby hml hrt hlk hZ hown hnm X0 e0 => ?_
 have N0 := Fr.nil n0
 obtain ⟨mv, md, mc, u0_0, u0_1, u0_2, u0_3, u0_4, u0_5, u0_6, u0_7, u0_8, u0_9, u0_10, u0_11, u0_12, u0_13⟩ := P0
 refine o_al X0 hx hby q5_0 ?_
 refine o_dup X0 hx hby q5_1 ?_
 refine o_g X0 hx hZ hown hw hby e0 u0_3 150 q5_2 fun T1 X1 e1 => ?_
 refine o_ll X1 hx hby q5_5 ?_
 refine o_lsub X1 hx hby q5_6 ?_
 refine o_pF X1 hx hZ hown hby (own_w hw 150 rfl) Via.refl e1 u0_3 u0_0 (Or.inl (own_w hw 151 rfl)) (own_w hw 30 rfl) ft_2 q5_7 fun T2 h2 X2 e2 W2 => ?_
 have N2 := Fr.snoc X2 N0 P4
 have Fw2 := u0_3.same W2
 have f3 := u0_0.wr W2
 have f4 := u0_1.other W2 (Or.inr (sn_9 hw))
 have f5 := u0_2.other W2 (Or.inr (sn_10 hw))
 have f6 := u0_4.other W2 (Or.inr (sn_11 hw))
 have f7 := u0_5.wr W2
 have ne8 := own_neE u0_5 u0_0 (Ne.symm ns_4)
 have f9 := u0_6.other W2 (Or.inl ne8)
 have f10 := u0_7.other W2 (Or.inl ne8)
 have f11 := u0_8.other W2 (Or.inl ne8)
 have f12 := u0_9.other W2 (Or.inl ne8)
 have f13 := u0_10.wr W2
 have ne14 := own_neE u0_10 u0_0 (Ne.symm ns_5)
 have f15 := u0_11.other W2 (Or.inl ne14)
 have f16 := u0_12.other W2 (Or.inl ne14)
 have f17 := u0_13.other W2 (Or.inl ne14)
 have ne18 := own_neE P1.exa u0_0 ns_3
 have f19 := P1.other W2 ne18
 have K20 := (Keep.refl h0 [aR, aS, aL, aA]).wr W2 (ow 0 rfl)
 have z21 := Nat.le_trans Z0 (Keep.of_wr W2).1
 refine o_al X2 hx hby q5_10 ?_
 refine o_dup X2 hx hby q5_11 ?_
 obtain ⟨T22, X22, e22, st22⟩ := own_getFR X2 hx hZ hown (own_w hw 152 rfl) e2 f10 (g := (mkF m 12 #[vR aR, vR aS, vJ pb, .second] [(.ref aS), (.ref aS)])) rfl rfl (hb hby q5_12)
 refine oS st22 ?_
 show oG _ _ _ _ (T22.setTop (mkF m 15 #[vR aR, vR aS, vJ pb, .second] [(.long hv), (.ref aS)]))
 refine o_ll X22 hx hby q5_15 ?_
 refine o_lsub X22 hx hby q5_16 ?_
 obtain ⟨T23, h23, X23, e23, W23, st23⟩ := own_putFR X22 hx hZ hown (own_w hw 152 rfl) e22 f10 f7 (own_w hw 141 rfl) (own_w hw 93 rfl) (ty := .long) ft_2 rfl rfl (g := (mkF m 17 #[vR aR, vR aS, vJ pb, .second] [(.long (hv - pb)), (.ref aS)])) rfl rfl (hb hby q5_17)
 refine oS st23 ?_
 have N23 := Fr.snoc X23 N2 P5
 have Fw23 := f10.same W23
 have f24 := f3.wr W23
 have f25 := f4.other W23 (Or.inl (Ne.symm ne8))
 have f26 := f5.other W23 (Or.inl (Ne.symm ne8))
 have f27 := f6.other W23 (Or.inl (Ne.symm ne8))
 have f28 := f7.wr W23
 have f29 := f9.other W23 (Or.inr (sn_12 hw))
 have f30 := f11.other W23 (Or.inr (sn_13 hw))
 have f31 := f12.other W23 (Or.inr (sn_14 hw))
 have f32 := f13.wr W23
 have ne33 := own_neE f13 f7 (Ne.symm ns_2)
 have f34 := f15.other W23 (Or.inl ne33)
 have f35 := f16.other W23 (Or.inl ne33)
 have f36 := f17.other W23 (Or.inl ne33)
 have ne37 := own_neE f19.exa f7 ns_1
 have f38 := f19.other W23 ne37
 have f39 := Fw2.other W23 (Or.inl (Ne.symm ne8))
 have K40 := K20.wr W23 (ow 1 rfl)
 have z41 := Nat.le_trans z21 (Keep.of_wr W23).1
 show oG _ _ _ _ (T23.setTop (mkF m 20 #[vR aR, vR aS, vJ pb, .second] []))
 refine o_al X23 hx hby q5_20 ?_
 refine o_al X23 hx hby q5_21 ?_
 refine o_cP X23 hx hZ hown hw hml hby (rm30 l Z a0 hw [] aR aS aL (hv - pb) md mc aA g h23 n0 z41 f24 f28 f26 P3 Fw23 f30 f29 f31 f32 f34 f35 f36 f38 P2 P5 P6 P7) f24 e23 157 158 30 159 160 31 0 q5_22 [(.ref aS)] [] pd_14 hy_7 fun v42 T42 L42 hQ42 X42 => ?_
 obtain ⟨gq43, mc244, rfl, Nq42, Kq42, p42_0, p42_1, p42_2, p42_3, p42_4, p42_5, p42_6, p42_7, p42_8⟩ := hQ42
 have N42 := Fr.app N23 Nq42
 have f45 := f24.keep Kq42
 have wx46 : own_exs Z _ [aS, aL, aA] ocl_3 := ⟨f28, f32, f38.exa, trivial⟩
 have ni47 := own_nin f24 wx46 nc_5
 have f48 := f25.keep Kq42 ni47
 have f49 := f26.keep Kq42 ni47
 have f50 := f27.keep Kq42 ni47
 have f51 := f28.keep Kq42
 have f52 := f32.keep Kq42
 have f53 := f39.keep Kq42 ni47
 have K54 := K40.trans Kq42 (allS (ow 1 rfl) (allS (ow 2 rfl) (allS (ow 3 rfl) all0)))
 have z55 := Nat.le_trans z41 Kq42.1
 refine oN ?_
 exact o_rv X42 hx hby hrt hlk q5_25 ⟨gq43, rfl, N42, K54, ⟨_, _, _, f45, f48, f49, f53, f50, f51, p42_3, p42_1, p42_2, p42_0, f52, p42_4, p42_5, p42_6⟩, p42_7, p42_8⟩
def Q39 (Z : State) (aR aS : Addr) (pb : Int64) (aL : Addr) (bd hv : Int64) (aA : Addr) (g : Nat → Value) (h0 : Heap) (n0 : Nat) (v : Option Value) (h : Heap) (L : List Loc) : Prop := ∃ gq : Nat → Value, v = none ∧ Fr n0 L ∧ Keep h0 h [aR, aS, aL, aA] ∧ (own_Rm Z h aR aS aL aA bd (hv - pb) (-1 : Int32) (0 : Int32)) ∧ (own_RO Z h aA (10 : Int32) gq)
set_option maxRecDepth 65536 in
set_option maxHeartbeats 40000000 in
theorem rm39 (l Z a0) (hw : oW a0 Z) (ws) (aR aS : Addr) (pb : Int64) (aL : Addr) (bd hv : Int64) (aA : Addr) (g : Nat → Value) (h0 : Heap) (n0 : Nat) (Z0 : n0 ≤ h0.size) (P0 : own_Rm Z h0 aR aS aL aA bd hv (0 : Int32) (1 : Int32)) (P1 : own_RO Z h0 aA (10 : Int32) g) (P2 : g (0 : Int32).toNatClampNeg = .ref aS) (P3 : ¬ (0 : Int64) < (hv - pb)) (P4 : n0 ≤ aR) (P5 : n0 ≤ aS) (P6 : n0 ≤ aL) (P7 : n0 ≤ aA) :
   own_Met l own_y6 kc5 4 none ws own_r19 #[(.ref aR), (.ref aS), (.long pb)] Z h0 (Q39 Z aR aS pb aL bd hv aA g h0 n0) := by
 refine own_bd #[vR aR, vR aS, vJ pb, .second] (plainFor_of_name pn_5) fun p e s m below meth c s₁ hx hby hml hrt hlk hZ hown hnm X0 e0 => ?_
 have N0 := Fr.nil n0
 obtain ⟨mv, md, mc, u0_0, u0_1, u0_2, u0_3, u0_4, u0_5, u0_6, u0_7, u0_8, u0_9, u0_10, u0_11, u0_12, u0_13⟩ := P0
 refine o_al X0 hx hby q5_0 ?_
 refine o_dup X0 hx hby q5_1 ?_
 refine o_g X0 hx hZ hown hw hby e0 u0_3 150 q5_2 fun T1 X1 e1 => ?_
 refine o_ll X1 hx hby q5_5 ?_
 refine o_lsub X1 hx hby q5_6 ?_
 refine o_pF X1 hx hZ hown hby (own_w hw 150 rfl) Via.refl e1 u0_3 u0_0 (Or.inl (own_w hw 151 rfl)) (own_w hw 30 rfl) ft_2 q5_7 fun T2 h2 X2 e2 W2 => ?_
 have N2 := Fr.snoc X2 N0 P4
 have Fw2 := u0_3.same W2
 have f3 := u0_0.wr W2
 have f4 := u0_1.other W2 (Or.inr (sn_9 hw))
 have f5 := u0_2.other W2 (Or.inr (sn_10 hw))
 have f6 := u0_4.other W2 (Or.inr (sn_11 hw))
 have f7 := u0_5.wr W2
 have ne8 := own_neE u0_5 u0_0 (Ne.symm ns_4)
 have f9 := u0_6.other W2 (Or.inl ne8)
 have f10 := u0_7.other W2 (Or.inl ne8)
 have f11 := u0_8.other W2 (Or.inl ne8)
 have f12 := u0_9.other W2 (Or.inl ne8)
 have f13 := u0_10.wr W2
 have ne14 := own_neE u0_10 u0_0 (Ne.symm ns_5)
 have f15 := u0_11.other W2 (Or.inl ne14)
 have f16 := u0_12.other W2 (Or.inl ne14)
 have f17 := u0_13.other W2 (Or.inl ne14)
 have ne18 := own_neE P1.exa u0_0 ns_3
 have f19 := P1.other W2 ne18
 have K20 := (Keep.refl h0 [aR, aS, aL, aA]).wr W2 (ow 0 rfl)
 have z21 := Nat.le_trans Z0 (Keep.of_wr W2).1
 refine o_al X2 hx hby q5_10 ?_
 refine o_dup X2 hx hby q5_11 ?_
 obtain ⟨T22, X22, e22, st22⟩ := own_getFR X2 hx hZ hown (own_w hw 152 rfl) e2 f10 (g := (mkF m 12 #[vR aR, vR aS, vJ pb, .second] [(.ref aS), (.ref aS)])) rfl rfl (hb hby q5_12)
 refine oS st22 ?_
 show oG _ _ _ _ (T22.setTop (mkF m 15 #[vR aR, vR aS, vJ pb, .second] [(.long hv), (.ref aS)]))
 refine o_ll X22 hx hby q5_15 ?_
 refine o_lsub X22 hx hby q5_16 ?_
 obtain ⟨T23, h23, X23, e23, W23, st23⟩ := own_putFR X22 hx hZ hown (own_w hw 152 rfl) e22 f10 f7 (own_w hw 141 rfl) (own_w hw 93 rfl) (ty := .long) ft_2 rfl rfl (g := (mkF m 17 #[vR aR, vR aS, vJ pb, .second] [(.long (hv - pb)), (.ref aS)])) rfl rfl (hb hby q5_17)
 refine oS st23 ?_
 have N23 := Fr.snoc X23 N2 P5
 have Fw23 := f10.same W23
 have f24 := f3.wr W23
 have f25 := f4.other W23 (Or.inl (Ne.symm ne8))
 have f26 := f5.other W23 (Or.inl (Ne.symm ne8))
 have f27 := f6.other W23 (Or.inl (Ne.symm ne8))
 have f28 := f7.wr W23
 have f29 := f9.other W23 (Or.inr (sn_12 hw))
 have f30 := f11.other W23 (Or.inr (sn_13 hw))
 have f31 := f12.other W23 (Or.inr (sn_14 hw))
 have f32 := f13.wr W23
 have ne33 := own_neE f13 f7 (Ne.symm ns_2)
 have f34 := f15.other W23 (Or.inl ne33)
 have f35 := f16.other W23 (Or.inl ne33)
 have f36 := f17.other W23 (Or.inl ne33)
 have ne37 := own_neE f19.exa f7 ns_1
 have f38 := f19.other W23 ne37
 have f39 := Fw2.other W23 (Or.inl (Ne.symm ne8))
 have K40 := K20.wr W23 (ow 1 rfl)
 have z41 := Nat.le_trans z21 (Keep.of_wr W23).1
 show oG _ _ _ _ (T23.setTop (mkF m 20 #[vR aR, vR aS, vJ pb, .second] []))
 refine o_al X23 hx hby q5_20 ?_
 refine o_al X23 hx hby q5_21 ?_
 refine o_cP X23 hx hZ hown hw hml hby (rm31 l Z a0 hw [] aR aS aL (hv - pb) md mc aA g h23 n0 z41 f24 f28 f26 P3 Fw23 f30 f29 f31 f32 f34 f35 f36 f38 P2 P5 P6 P7) f24 e23 157 158 30 159 160 31 0 q5_22 [(.ref aS)] [] pd_14 hy_7 fun v42 T42 L42 hQ42 X42 => ?_
 obtain ⟨gq43, mc244, rfl, Nq42, Kq42, p42_0, p42_1, p42_2, p42_3, p42_4, p42_5, p42_6, p42_7⟩ := hQ42
 have N42 := Fr.app N23 Nq42
 have f45 := f24.keep Kq42
 have wx46 : own_exs Z _ [aS, aL, aA] ocl_3 := ⟨f28, f32, f38.exa, trivial⟩
 have ni47 := own_nin f24 wx46 nc_5
 have f48 := f25.keep Kq42 ni47
 have f49 := f26.keep Kq42 ni47
 have f50 := f27.keep Kq42 ni47
 have f51 := f28.keep Kq42
 have f52 := f32.keep Kq42
 have f53 := f39.keep Kq42 ni47
 have K54 := K40.trans Kq42 (allS (ow 1 rfl) (allS (ow 2 rfl) (allS (ow 3 rfl) all0)))
 have z55 := Nat.le_trans z41 Kq42.1
 refine oN ?_
 exact o_rv X42 hx hby hrt hlk q5_25 ⟨gq43, rfl, N42, K54, ⟨_, _, _, f45, f48, f49, f53, f50, f51, p42_3, p42_1, p42_2, p42_0, f52, p42_4, p42_5, p42_6⟩, p42_7⟩
def Q40 (Z : State) (aS : Addr) (pb : Int64) (aR aL : Addr) (bd hv : Int64) (aD : Addr) (kD : ClassId) (h0 : Heap) (n0 : Nat) (v : Option Value) (h : Heap) (L : List Loc) : Prop := ∃ aA : Addr, ∃ gq : Nat → Value, v = some (.int 1) ∧ Fr n0 L ∧ Keep h0 h [aR, aS, aL] ∧ (h0.size ≤ aA) ∧ (own_Rm Z h aR aS aL aA bd (hv + pb) (0 : Int32) (1 : Int32)) ∧ (own_RO Z h aA (10 : Int32) gq) ∧ (gq (0 : Int32).toNatClampNeg = .ref aS)
set_option maxRecDepth 65536 in
set_option maxHeartbeats 40000000 in
theorem rm40 (l Z a0) (hw : oW a0 Z) (ws) (aS : Addr) (pb : Int64) (aR aL : Addr) (bd hv : Int64) (aD : Addr) (kD : ClassId) (h0 : Heap) (n0 : Nat) (Z0 : n0 ≤ h0.size) (P0 : own_Rm Z h0 aR aS aL aD bd hv (-1 : Int32) (0 : Int32)) (P1 : Old Z n0 h0) (P2 : Sta Z Z.heap "java/util/ArrayList" "DEFAULTCAPACITY_EMPTY_ELEMENTDATA" "[Ljava/lang/Object;" (.ref aD)) (P3 : Arv Z Z.heap aD kD (.object "java/lang/Object") (0 : Int32) [] .null) (P4 : ¬ bd < (hv + pb)) (P5 : (0 : Int64) < (hv + pb)) (P6 : n0 ≤ aR) (P7 : n0 ≤ aS) (P8 : n0 ≤ aL) :
   own_Met l own_y16 kc27 3 (some .boolean) ws own_r32 #[(.ref aS), (.long pb)] Z h0 (Q40 Z aS pb aR aL bd hv aD kD h0 n0) := by
 refine own_bd #[vR aS, vJ pb, .second] (plainFor_of_name pn_6) fun p e s m below meth c s₁ hx hby hml hrt hlk hZ hown hnm X0 e0 => ?_
 have N0 := Fr.nil n0
 obtain ⟨mv, md, mc, u0_0, u0_1, u0_2, u0_3, u0_4, u0_5, u0_6, u0_7, u0_8, u0_9, u0_10, u0_11, u0_12, u0_13⟩ := P0
 refine o_al X0 hx hby q27_0 ?_
 refine o_g X0 hx hZ hown hw hby e0 u0_6 98 q27_1 fun T1 X1 e1 => ?_
 refine o_al X1 hx hby q27_4 ?_
 refine o_ll X1 hx hby q27_5 ?_
 refine o_al X1 hx hby q27_6 ?_
 refine o_g X1 hx hZ hown hw hby e1 u0_7 140 q27_7 fun T2 X2 e2 => ?_
 refine o_cN X2 hx hZ hown hw hml hby (rm32 l Z a0 hw [] aR aS pb hv aL bd hv aD kD h0 n0 Z0 (⟨_, _, _, u0_0, u0_1, u0_2, u0_3, u0_4, u0_5, u0_6, u0_7, u0_8, u0_9, u0_10, u0_11, u0_12, u0_13⟩) P1 P2 P3 P4 P5 P6 P7 P8) u0_0 e2 142 143 30 144 145 31 0 q27_10 [(.ref aS), (.long pb), (.long hv)] [] pd_16 hy_7 fun v3 T3 L3 hQ3 X3 => ?_
 obtain ⟨aA4, gq5, rfl, Nq3, Kq3, p3_0, p3_1, p3_2, p3_3⟩ := hQ3
 have N3 := Fr.app N0 Nq3
 have ne6 : aR ≠ aA4 := Nat.ne_of_lt (Nat.lt_of_lt_of_le u0_0.lt p3_0)
 have ne7 : aS ≠ aA4 := Nat.ne_of_lt (Nat.lt_of_lt_of_le u0_5.lt p3_0)
 have ne8 : aL ≠ aA4 := Nat.ne_of_lt (Nat.lt_of_lt_of_le u0_10.lt p3_0)
 have ne9 : aD ≠ aA4 := Nat.ne_of_lt (Nat.lt_of_lt_of_le (P3.ext P1.2).lt p3_0)
 have ge10 : n0 ≤ aA4 := Nat.le_trans Z0 p3_0
 have sz11 : h0.size ≤ aA4 := Nat.le_trans (Keep.refl h0 [aR, aS, aL]).1 p3_0
 have f12 := u0_0.keep Kq3
 have f13 := u0_5.keep Kq3
 have f14 := u0_10.keep Kq3
 have f15 := P1.keep Kq3 (allS P6 (allS P7 (allS P8 all0)))
 have K16 := own_ktr (Keep.refl h0 [aR, aS, aL]) Kq3
 have z17 := Nat.le_trans Z0 Kq3.1
 refine oV ?_
 exact o_rZ X3 hx hby hrt hlk q27_13 ⟨aA4, gq5, rfl, N3, K16, sz11, p3_1, p3_2, p3_3⟩
def Q41 (Z : State) (aS : Addr) (pb : Int64) (aR aL : Addr) (bd hv : Int64) (aA : Addr) (g : Nat → Value) (h0 : Heap) (n0 : Nat) (v : Option Value) (h : Heap) (L : List Loc) : Prop := ∃ gq : Nat → Value, v = some (.int 1) ∧ Fr n0 L ∧ Keep h0 h [aR, aS, aL, aA] ∧ (own_Rm Z h aR aS aL aA bd (hv + pb) (0 : Int32) (1 : Int32)) ∧ (own_RO Z h aA (10 : Int32) gq) ∧ (gq (0 : Int32).toNatClampNeg = .ref aS)
set_option maxRecDepth 65536 in
set_option maxHeartbeats 40000000 in
theorem rm41 (l Z a0) (hw : oW a0 Z) (ws) (aS : Addr) (pb : Int64) (aR aL : Addr) (bd hv : Int64) (aA : Addr) (g : Nat → Value) (h0 : Heap) (n0 : Nat) (Z0 : n0 ≤ h0.size) (P0 : own_Rm Z h0 aR aS aL aA bd hv (-1 : Int32) (0 : Int32)) (P1 : own_RO Z h0 aA (10 : Int32) g) (P2 : ¬ bd < (hv + pb)) (P3 : (0 : Int64) < (hv + pb)) (P4 : n0 ≤ aR) (P5 : n0 ≤ aS) (P6 : n0 ≤ aL) (P7 : n0 ≤ aA) :
   own_Met l own_y16 kc27 3 (some .boolean) ws own_r31 #[(.ref aS), (.long pb)] Z h0 (Q41 Z aS pb aR aL bd hv aA g h0 n0) := by
 refine own_bd #[vR aS, vJ pb, .second] (plainFor_of_name pn_6) fun p e s m below meth c s₁ hx hby hml hrt hlk hZ hown hnm X0 e0 => ?_
 have N0 := Fr.nil n0
 obtain ⟨mv, md, mc, u0_0, u0_1, u0_2, u0_3, u0_4, u0_5, u0_6, u0_7, u0_8, u0_9, u0_10, u0_11, u0_12, u0_13⟩ := P0
 refine o_al X0 hx hby q27_0 ?_
 refine o_g X0 hx hZ hown hw hby e0 u0_6 98 q27_1 fun T1 X1 e1 => ?_
 refine o_al X1 hx hby q27_4 ?_
 refine o_ll X1 hx hby q27_5 ?_
 refine o_al X1 hx hby q27_6 ?_
 refine o_g X1 hx hZ hown hw hby e1 u0_7 140 q27_7 fun T2 X2 e2 => ?_
 refine o_cN X2 hx hZ hown hw hml hby (rm33 l Z a0 hw [] aR aS pb hv aL bd hv aA g h0 n0 Z0 (⟨_, _, _, u0_0, u0_1, u0_2, u0_3, u0_4, u0_5, u0_6, u0_7, u0_8, u0_9, u0_10, u0_11, u0_12, u0_13⟩) P1 P2 P3 P4 P5 P6 P7) u0_0 e2 142 143 30 144 145 31 0 q27_10 [(.ref aS), (.long pb), (.long hv)] [] pd_16 hy_7 fun v3 T3 L3 hQ3 X3 => ?_
 obtain ⟨gq4, rfl, Nq3, Kq3, p3_0, p3_1, p3_2⟩ := hQ3
 have N3 := Fr.app N0 Nq3
 have f5 := u0_0.keep Kq3
 have f6 := u0_5.keep Kq3
 have f7 := u0_10.keep Kq3
 have K8 := own_ktr (Keep.refl h0 [aR, aS, aL, aA]) Kq3
 have z9 := Nat.le_trans Z0 Kq3.1
 refine oV ?_
 exact o_rZ X3 hx hby hrt hlk q27_13 ⟨gq4, rfl, N3, K8, p3_0, p3_1, p3_2⟩
def Q42 (Z : State) (aS : Addr) (pb : Int64) (aR aL : Addr) (bd hv : Int64) (aA : Addr) (g : Nat → Value) (h0 : Heap) (n0 : Nat) (v : Option Value) (h : Heap) (L : List Loc) : Prop := ∃ gq : Nat → Value, v = some (.int 1) ∧ Fr n0 L ∧ Keep h0 h [aR, aS, aL, aA] ∧ (own_Rm Z h aR aS aL aA bd (hv + pb) (0 : Int32) (1 : Int32)) ∧ (own_RO Z h aA (10 : Int32) gq) ∧ (gq (0 : Int32).toNatClampNeg = .ref aS)
set_option maxRecDepth 65536 in
set_option maxHeartbeats 40000000 in
theorem rm42 (l Z a0) (hw : oW a0 Z) (ws) (aS : Addr) (pb : Int64) (aR aL : Addr) (bd hv : Int64) (aA : Addr) (g : Nat → Value) (h0 : Heap) (n0 : Nat) (Z0 : n0 ≤ h0.size) (P0 : own_Rm Z h0 aR aS aL aA bd hv (0 : Int32) (1 : Int32)) (P1 : own_RO Z h0 aA (10 : Int32) g) (P2 : g (0 : Int32).toNatClampNeg = .ref aS) (P3 : ¬ bd < (hv + pb)) (P4 : (0 : Int64) < (hv + pb)) (P5 : n0 ≤ aR) (P6 : n0 ≤ aS) (P7 : n0 ≤ aL) (P8 : n0 ≤ aA) :
   own_Met l own_y16 kc27 3 (some .boolean) ws own_r31 #[(.ref aS), (.long pb)] Z h0 (Q42 Z aS pb aR aL bd hv aA g h0 n0) := by
 refine own_bd #[vR aS, vJ pb, .second] (plainFor_of_name pn_6) fun p e s m below meth c s₁ hx hby hml hrt hlk hZ hown hnm X0 e0 => ?_
 have N0 := Fr.nil n0
 obtain ⟨mv, md, mc, u0_0, u0_1, u0_2, u0_3, u0_4, u0_5, u0_6, u0_7, u0_8, u0_9, u0_10, u0_11, u0_12, u0_13⟩ := P0
 refine o_al X0 hx hby q27_0 ?_
 refine o_g X0 hx hZ hown hw hby e0 u0_6 98 q27_1 fun T1 X1 e1 => ?_
 refine o_al X1 hx hby q27_4 ?_
 refine o_ll X1 hx hby q27_5 ?_
 refine o_al X1 hx hby q27_6 ?_
 refine o_g X1 hx hZ hown hw hby e1 u0_7 140 q27_7 fun T2 X2 e2 => ?_
 refine o_cN X2 hx hZ hown hw hml hby (rm34 l Z a0 hw [] aR aS pb hv aL bd hv aA g h0 n0 Z0 (⟨_, _, _, u0_0, u0_1, u0_2, u0_3, u0_4, u0_5, u0_6, u0_7, u0_8, u0_9, u0_10, u0_11, u0_12, u0_13⟩) P1 P2 P3 P4 P5 P6 P7 P8) u0_0 e2 142 143 30 144 145 31 0 q27_10 [(.ref aS), (.long pb), (.long hv)] [] pd_16 hy_7 fun v3 T3 L3 hQ3 X3 => ?_
 obtain ⟨gq4, rfl, Nq3, Kq3, p3_0, p3_1, p3_2⟩ := hQ3
 have N3 := Fr.app N0 Nq3
 have f5 := u0_0.keep Kq3
 have f6 := u0_5.keep Kq3
 have f7 := u0_10.keep Kq3
 have K8 := own_ktr (Keep.refl h0 [aR, aS, aL, aA]) Kq3
 have z9 := Nat.le_trans Z0 Kq3.1
 refine oV ?_
 exact o_rZ X3 hx hby hrt hlk q27_13 ⟨gq4, rfl, N3, K8, p3_0, p3_1, p3_2⟩
def Q43 (Z : State) (aS : Addr) (pb : Int64) (aR aL : Addr) (bd hv : Int64) (aD : Addr) (kD : ClassId) (h0 : Heap) (n0 : Nat) (v : Option Value) (h : Heap) (L : List Loc) : Prop := v = some (.int 0) ∧ Fr n0 L ∧ h = h0
set_option maxRecDepth 65536 in
set_option maxHeartbeats 40000000 in
theorem rm43 (l Z a0) (hw : oW a0 Z) (ws) (aS : Addr) (pb : Int64) (aR aL : Addr) (bd hv : Int64) (aD : Addr) (kD : ClassId) (h0 : Heap) (n0 : Nat) (Z0 : n0 ≤ h0.size) (P0 : own_Rm Z h0 aR aS aL aD bd hv (-1 : Int32) (0 : Int32)) (P1 : Old Z n0 h0) (P2 : Sta Z Z.heap "java/util/ArrayList" "DEFAULTCAPACITY_EMPTY_ELEMENTDATA" "[Ljava/lang/Object;" (.ref aD)) (P3 : Arv Z Z.heap aD kD (.object "java/lang/Object") (0 : Int32) [] .null) (P4 : bd < (hv + pb)) :
   own_Met l own_y16 kc27 3 (some .boolean) ws own_r20 #[(.ref aS), (.long pb)] Z h0 (Q43 Z aS pb aR aL bd hv aD kD h0 n0) := by
 refine own_bd #[vR aS, vJ pb, .second] (plainFor_of_name pn_6) fun p e s m below meth c s₁ hx hby hml hrt hlk hZ hown hnm X0 e0 => ?_
 have N0 := Fr.nil n0
 obtain ⟨mv, md, mc, u0_0, u0_1, u0_2, u0_3, u0_4, u0_5, u0_6, u0_7, u0_8, u0_9, u0_10, u0_11, u0_12, u0_13⟩ := P0
 refine o_al X0 hx hby q27_0 ?_
 refine o_g X0 hx hZ hown hw hby e0 u0_6 98 q27_1 fun T1 X1 e1 => ?_
 refine o_al X1 hx hby q27_4 ?_
 refine o_ll X1 hx hby q27_5 ?_
 refine o_al X1 hx hby q27_6 ?_
 refine o_g X1 hx hZ hown hw hby e1 u0_7 140 q27_7 fun T2 X2 e2 => ?_
 refine o_cN X2 hx hZ hown hw hml hby (rm35 l Z a0 hw [] aR aS pb hv aL bd hv aD kD h0 n0 Z0 (⟨_, _, _, u0_0, u0_1, u0_2, u0_3, u0_4, u0_5, u0_6, u0_7, u0_8, u0_9, u0_10, u0_11, u0_12, u0_13⟩) P1 P2 P3 P4) u0_0 e2 142 143 30 144 145 31 0 q27_10 [(.ref aS), (.long pb), (.long hv)] [] pd_16 hy_7 fun v3 T3 L3 hQ3 X3 => ?_
 obtain ⟨rfl, Nq3, eq3⟩ := hQ3
 have N3 := Fr.app N0 Nq3
 refine oV ?_
 exact o_rZ X3 hx hby hrt hlk q27_13 (by rw [eq3]; exact ⟨rfl, N3, rfl⟩)
def Q44 (Z : State) (aS : Addr) (pb : Int64) (aR aL : Addr) (bd hv : Int64) (aA : Addr) (g : Nat → Value) (h0 : Heap) (n0 : Nat) (v : Option Value) (h : Heap) (L : List Loc) : Prop := v = some (.int 0) ∧ Fr n0 L ∧ h = h0
set_option maxRecDepth 65536 in
set_option maxHeartbeats 40000000 in
theorem rm44 (l Z a0) (hw : oW a0 Z) (ws) (aS : Addr) (pb : Int64) (aR aL : Addr) (bd hv : Int64) (aA : Addr) (g : Nat → Value) (h0 : Heap) (n0 : Nat) (Z0 : n0 ≤ h0.size) (P0 : own_Rm Z h0 aR aS aL aA bd hv (-1 : Int32) (0 : Int32)) (P1 : own_RO Z h0 aA (10 : Int32) g) (P2 : bd < (hv + pb)) :
   own_Met l own_y16 kc27 3 (some .boolean) ws own_r20 #[(.ref aS), (.long pb)] Z h0 (Q44 Z aS pb aR aL bd hv aA g h0 n0) := by
 refine own_bd #[vR aS, vJ pb, .second] (plainFor_of_name pn_6) fun p e s m below meth c s₁ hx hby hml hrt hlk hZ hown hnm X0 e0 => ?_
 have N0 := Fr.nil n0
 obtain ⟨mv, md, mc, u0_0, u0_1, u0_2, u0_3, u0_4, u0_5, u0_6, u0_7, u0_8, u0_9, u0_10, u0_11, u0_12, u0_13⟩ := P0
 refine o_al X0 hx hby q27_0 ?_
 refine o_g X0 hx hZ hown hw hby e0 u0_6 98 q27_1 fun T1 X1 e1 => ?_
 refine o_al X1 hx hby q27_4 ?_
 refine o_ll X1 hx hby q27_5 ?_
 refine o_al X1 hx hby q27_6 ?_
 refine o_g X1 hx hZ hown hw hby e1 u0_7 140 q27_7 fun T2 X2 e2 => ?_
 refine o_cN X2 hx hZ hown hw hml hby (rm36 l Z a0 hw [] aR aS pb hv aL bd hv aA g h0 n0 Z0 (⟨_, _, _, u0_0, u0_1, u0_2, u0_3, u0_4, u0_5, u0_6, u0_7, u0_8, u0_9, u0_10, u0_11, u0_12, u0_13⟩) P1 P2) u0_0 e2 142 143 30 144 145 31 0 q27_10 [(.ref aS), (.long pb), (.long hv)] [] pd_16 hy_7 fun v3 T3 L3 hQ3 X3 => ?_
 obtain ⟨rfl, Nq3, eq3⟩ := hQ3
 have N3 := Fr.app N0 Nq3
 refine oV ?_
 exact o_rZ X3 hx hby hrt hlk q27_13 (by rw [eq3]; exact ⟨rfl, N3, rfl⟩)
def Q45 (Z : State) (aS : Addr) (pb : Int64) (aR aL : Addr) (bd hv : Int64) (aA : Addr) (g : Nat → Value) (h0 : Heap) (n0 : Nat) (v : Option Value) (h : Heap) (L : List Loc) : Prop := v = some (.int 0) ∧ Fr n0 L ∧ h = h0
set_option maxRecDepth 65536 in
set_option maxHeartbeats 40000000 in
theorem rm45 (l Z a0) (hw : oW a0 Z) (ws) (aS : Addr) (pb : Int64) (aR aL : Addr) (bd hv : Int64) (aA : Addr) (g : Nat → Value) (h0 : Heap) (n0 : Nat) (Z0 : n0 ≤ h0.size) (P0 : own_Rm Z h0 aR aS aL aA bd hv (0 : Int32) (1 : Int32)) (P1 : own_RO Z h0 aA (10 : Int32) g) (P2 : g (0 : Int32).toNatClampNeg = .ref aS) (P3 : bd < (hv + pb)) :
   own_Met l own_y16 kc27 3 (some .boolean) ws own_r28 #[(.ref aS), (.long pb)] Z h0 (Q45 Z aS pb aR aL bd hv aA g h0 n0) := by
 refine own_bd #[vR aS, vJ pb, .second] (plainFor_of_name pn_6) fun p e s m below meth c s₁ hx hby hml hrt hlk hZ hown hnm X0 e0 => ?_
 have N0 := Fr.nil n0
 obtain ⟨mv, md, mc, u0_0, u0_1, u0_2, u0_3, u0_4, u0_5, u0_6, u0_7, u0_8, u0_9, u0_10, u0_11, u0_12, u0_13⟩ := P0
 refine o_al X0 hx hby q27_0 ?_
 refine o_g X0 hx hZ hown hw hby e0 u0_6 98 q27_1 fun T1 X1 e1 => ?_
 refine o_al X1 hx hby q27_4 ?_
 refine o_ll X1 hx hby q27_5 ?_
 refine o_al X1 hx hby q27_6 ?_
 refine o_g X1 hx hZ hown hw hby e1 u0_7 140 q27_7 fun T2 X2 e2 => ?_
 refine o_cN X2 hx hZ hown hw hml hby (rm37 l Z a0 hw [] aR aS pb hv aL bd hv aA g h0 n0 Z0 (⟨_, _, _, u0_0, u0_1, u0_2, u0_3, u0_4, u0_5, u0_6, u0_7, u0_8, u0_9, u0_10, u0_11, u0_12, u0_13⟩) P1 P2 P3) u0_0 e2 142 143 30 144 145 31 0 q27_10 [(.ref aS), (.long pb), (.long hv)] [] pd_16 hy_7 fun v3 T3 L3 hQ3 X3 => ?_
 obtain ⟨rfl, Nq3, eq3⟩ := hQ3
 have N3 := Fr.app N0 Nq3
 refine oV ?_
 exact o_rZ X3 hx hby hrt hlk q27_13 (by rw [eq3]; exact ⟨rfl, N3, rfl⟩)
def Q46 (Z : State) (aS : Addr) (pb : Int64) (aR aL : Addr) (bd hv : Int64) (aA : Addr) (g : Nat → Value) (h0 : Heap) (n0 : Nat) (v : Option Value) (h : Heap) (L : List Loc) : Prop := ∃ gq : Nat → Value, v = none ∧ Fr n0 L ∧ Keep h0 h [aR, aS, aL, aA] ∧ (own_Rm Z h aR aS aL aA bd (hv - pb) (0 : Int32) (1 : Int32)) ∧ (own_RO Z h aA (10 : Int32) gq) ∧ (gq (0 : Int32).toNatClampNeg = .ref aS)
set_option maxRecDepth 65536 in
set_option maxHeartbeats 40000000 in
theorem rm46 (l Z a0) (hw : oW a0 Z) (ws) (aS : Addr) (pb : Int64) (aR aL : Addr) (bd hv : Int64) (aA : Addr) (g : Nat → Value) (h0 : Heap) (n0 : Nat) (Z0 : n0 ≤ h0.size) (P0 : own_Rm Z h0 aR aS aL aA bd hv (0 : Int32) (1 : Int32)) (P1 : own_RO Z h0 aA (10 : Int32) g) (P2 : g (0 : Int32).toNatClampNeg = .ref aS) (P3 : (0 : Int64) < (hv - pb)) (P4 : n0 ≤ aR) (P5 : n0 ≤ aS) (P6 : n0 ≤ aL) (P7 : n0 ≤ aA) :
   own_Met l own_y15 kc19 3 none ws own_r30 #[(.ref aS), (.long pb)] Z h0 (Q46 Z aS pb aR aL bd hv aA g h0 n0) := by
 refine own_bd #[vR aS, vJ pb, .second] (plainFor_of_name pn_6) fun p e s m below meth c s₁ hx hby hml hrt hlk hZ hown hnm X0 e0 => ?_
 have N0 := Fr.nil n0
 obtain ⟨mv, md, mc, u0_0, u0_1, u0_2, u0_3, u0_4, u0_5, u0_6, u0_7, u0_8, u0_9, u0_10, u0_11, u0_12, u0_13⟩ := P0
 refine o_al X0 hx hby q19_0 ?_
 refine o_g X0 hx hZ hown hw hby e0 u0_6 98 q19_1 fun T1 X1 e1 => ?_
 refine o_al X1 hx hby q19_4 ?_
 refine o_ll X1 hx hby q19_5 ?_
 refine o_cN X1 hx hZ hown hw hml hby (rm38 l Z a0 hw [] aR aS pb aL bd hv aA g h0 n0 Z0 (⟨_, _, _, u0_0, u0_1, u0_2, u0_3, u0_4, u0_5, u0_6, u0_7, u0_8, u0_9, u0_10, u0_11, u0_12, u0_13⟩) P1 P2 P3 P4 P5 P6 P7) u0_0 e1 272 273 30 274 275 31 0 q19_6 [(.ref aS), (.long pb)] [] pd_17 hy_7 fun v2 T2 L2 hQ2 X2 => ?_
 obtain ⟨gq3, rfl, Nq2, Kq2, p2_0, p2_1, p2_2⟩ := hQ2
 have N2 := Fr.app N0 Nq2
 have f4 := u0_0.keep Kq2
 have f5 := u0_5.keep Kq2
 have f6 := u0_10.keep Kq2
 have K7 := own_ktr (Keep.refl h0 [aR, aS, aL, aA]) Kq2
 have z8 := Nat.le_trans Z0 Kq2.1
 refine oN ?_
 exact o_rv X2 hx hby hrt hlk q19_9 ⟨gq3, rfl, N2, K7, p2_0, p2_1, p2_2⟩
def Q47 (Z : State) (aS : Addr) (pb : Int64) (aR aL : Addr) (bd hv : Int64) (aA : Addr) (g : Nat → Value) (h0 : Heap) (n0 : Nat) (v : Option Value) (h : Heap) (L : List Loc) : Prop := ∃ gq : Nat → Value, v = none ∧ Fr n0 L ∧ Keep h0 h [aR, aS, aL, aA] ∧ (own_Rm Z h aR aS aL aA bd (hv - pb) (-1 : Int32) (0 : Int32)) ∧ (own_RO Z h aA (10 : Int32) gq)
set_option maxRecDepth 65536 in
set_option maxHeartbeats 40000000 in
theorem rm47 (l Z a0) (hw : oW a0 Z) (ws) (aS : Addr) (pb : Int64) (aR aL : Addr) (bd hv : Int64) (aA : Addr) (g : Nat → Value) (h0 : Heap) (n0 : Nat) (Z0 : n0 ≤ h0.size) (P0 : own_Rm Z h0 aR aS aL aA bd hv (0 : Int32) (1 : Int32)) (P1 : own_RO Z h0 aA (10 : Int32) g) (P2 : g (0 : Int32).toNatClampNeg = .ref aS) (P3 : ¬ (0 : Int64) < (hv - pb)) (P4 : n0 ≤ aR) (P5 : n0 ≤ aS) (P6 : n0 ≤ aL) (P7 : n0 ≤ aA) :
   own_Met l own_y15 kc19 3 none ws own_r23 #[(.ref aS), (.long pb)] Z h0 (Q47 Z aS pb aR aL bd hv aA g h0 n0) := by
 refine own_bd #[vR aS, vJ pb, .second] (plainFor_of_name pn_6) fun p e s m below meth c s₁ hx hby hml hrt hlk hZ hown hnm X0 e0 => ?_
 have N0 := Fr.nil n0
 obtain ⟨mv, md, mc, u0_0, u0_1, u0_2, u0_3, u0_4, u0_5, u0_6, u0_7, u0_8, u0_9, u0_10, u0_11, u0_12, u0_13⟩ := P0
 refine o_al X0 hx hby q19_0 ?_
 refine o_g X0 hx hZ hown hw hby e0 u0_6 98 q19_1 fun T1 X1 e1 => ?_
 refine o_al X1 hx hby q19_4 ?_
 refine o_ll X1 hx hby q19_5 ?_
 refine o_cN X1 hx hZ hown hw hml hby (rm39 l Z a0 hw [] aR aS pb aL bd hv aA g h0 n0 Z0 (⟨_, _, _, u0_0, u0_1, u0_2, u0_3, u0_4, u0_5, u0_6, u0_7, u0_8, u0_9, u0_10, u0_11, u0_12, u0_13⟩) P1 P2 P3 P4 P5 P6 P7) u0_0 e1 272 273 30 274 275 31 0 q19_6 [(.ref aS), (.long pb)] [] pd_17 hy_7 fun v2 T2 L2 hQ2 X2 => ?_
 obtain ⟨gq3, rfl, Nq2, Kq2, p2_0, p2_1⟩ := hQ2
 have N2 := Fr.app N0 Nq2
 have f4 := u0_0.keep Kq2
 have f5 := u0_5.keep Kq2
 have f6 := u0_10.keep Kq2
 have K7 := own_ktr (Keep.refl h0 [aR, aS, aL, aA]) Kq2
 have z8 := Nat.le_trans Z0 Kq2.1
 refine oN ?_
 exact o_rv X2 hx hby hrt hlk q19_9 ⟨gq3, rfl, N2, K7, p2_0, p2_1⟩
def Q48 (Z : State) (aE : Addr) (sq tm : Int64) (aB : Addr) (h0 : Heap) (n0 : Nat) (v : Option Value) (h : Heap) (L : List Loc) : Prop := v = none ∧ Fr n0 L ∧ Keep h0 h [aE] ∧ (oF0 Z h aE (.long sq)) ∧ (oF1 Z h aE (.ref aB))
set_option maxRecDepth 65536 in
set_option maxHeartbeats 40000000 in
theorem rm48 (l Z a0) (hw : oW a0 Z) (ws) (aE : Addr) (sq tm : Int64) (aB : Addr) (h0 : Heap) (n0 : Nat) (Z0 : n0 ≤ h0.size) (P0 : oX1 Z h0 aE) (P1 : oF0 Z h0 aE (.long 0)) (P2 : oF21 Z h0 aE (.long 0)) (P3 : oF1 Z h0 aE .null) (P4 : n0 ≤ aE) :
   own_Met l own_y0 kc22 6 none ws own_r2 #[(.ref aE), (.long sq), (.long tm), (.ref aB)] Z h0 (Q48 Z aE sq tm aB  h0 n0) := by
 refine own_bd #[vR aE, vJ sq, .second, vJ tm, .second, vR aB] (plainFor_of_name pn_7) fun p e s m below meth c s₁ hx hby hml hrt hlk hZ hown hnm X0 e0 => ?_
 have N0 := Fr.nil n0
 refine o_al X0 hx hby q22_0 ?_
 obtain ⟨T1, X1, e1, st1⟩ := initO X0 hx hZ hown (own_w hw 13 rfl) (own_w hw 14 rfl) (own_w hw 15 rfl) e0 (g := (mkF m 1 #[vR aE, vJ sq, .second, vJ tm, .second, vR aB] [(.ref aE)])) rfl (by rw [hml]; rfl) rfl (hb hby q22_1) (by decide) (W := 0) own_2z (by decide)
 refine oS st1 ?_
 show oG _ _ _ _ (T1.setTop (mkF m 4 #[vR aE, vJ sq, .second, vJ tm, .second, vR aB] []))
 refine o_al X1 hx hby q22_4 ?_
 refine o_ll X1 hx hby q22_5 ?_
 refine o_pF X1 hx hZ hown hby (own_w hw 16 rfl) Via.refl e1 P1 P0 (Or.inr ⟨(own_w hw 17 rfl), rfl, hnm⟩) (own_w hw 7 rfl) ft_2 q22_6 fun T2 h2 X2 e2 W2 => ?_
 have N2 := Fr.snoc X2 N0 P4
 have Fw2 := P1.same W2
 have f3 := P0.wr W2
 have f4 := P2.other W2 (Or.inr (sn_21 hw))
 have f5 := P3.other W2 (Or.inr (sn_22 hw))
 have K6 := (Keep.refl h0 [aE]).wr W2 (ow 0 rfl)
 have z7 := Nat.le_trans Z0 (Keep.of_wr W2).1
 refine o_al X2 hx hby q22_9 ?_
 refine o_ll X2 hx hby q22_10 ?_
 refine o_pF X2 hx hZ hown hby (own_w hw 18 rfl) Via.refl e2 f4 f3 (Or.inr ⟨(own_w hw 19 rfl), rfl, hnm⟩) (own_w hw 7 rfl) ft_2 q22_11 fun T8 h8 X8 e8 W8 => ?_
 have N8 := Fr.snoc X8 N2 P4
 have Fw8 := f4.same W8
 have f9 := f3.wr W8
 have f10 := f5.other W8 (Or.inr (sn_23 hw))
 have f11 := Fw2.other W8 (Or.inr (sn_24 hw))
 have K12 := K6.wr W8 (ow 0 rfl)
 have z13 := Nat.le_trans z7 (Keep.of_wr W8).1
 refine o_al X8 hx hby q22_14 ?_
 refine o_aw X8 hx hby q22_15 ?_
 refine o_pF X8 hx hZ hown hby (own_w hw 20 rfl) Via.refl e8 f10 f9 (Or.inr ⟨(own_w hw 21 rfl), rfl, hnm⟩) (own_w hw 7 rfl) ft_5 q22_17 fun T14 h14 X14 e14 W14 => ?_
 have N14 := Fr.snoc X14 N8 P4
 have Fw14 := f10.same W14
 have f15 := f9.wr W14
 have f16 := f11.other W14 (Or.inr (sn_25 hw))
 have f17 := Fw8.other W14 (Or.inr (sn_26 hw))
 have K18 := K12.wr W14 (ow 0 rfl)
 have z19 := Nat.le_trans z13 (Keep.of_wr W14).1
 exact o_rv X14 hx hby hrt hlk q22_20 (by rw [e14]; exact ⟨rfl, N14, K18, f16, Fw14⟩)
def Q49 (Z : State) (aE aB : Addr) (h0 : Heap) (n0 : Nat) (v : Option Value) (h : Heap) (L : List Loc) : Prop := v = some (.ref aB) ∧ Fr n0 L ∧ h = h0
set_option maxRecDepth 65536 in
set_option maxHeartbeats 40000000 in
theorem rm49 (l Z a0) (hw : oW a0 Z) (ws) (aE aB : Addr) (h0 : Heap) (n0 : Nat) (Z0 : n0 ≤ h0.size) (P0 : oF1 Z h0 aE (.ref aB)) :
   own_Met l own_y1 kc10 1 (some (.array .byte)) ws own_r0 #[(.ref aE)] Z h0 (Q49 Z aE aB h0 n0) := by
 refine own_bd #[vR aE] (plainFor_of_name pn_7) fun p e s m below meth c s₁ hx hby hml hrt hlk hZ hown hnm X0 e0 => ?_
 have N0 := Fr.nil n0
 refine o_al X0 hx hby q10_0 ?_
 refine o_g X0 hx hZ hown hw hby e0 P0 20 q10_1 fun T1 X1 e1 => ?_
 exact o_rA X1 hx hby hrt hlk q10_4 (by rw [e1]; exact ⟨rfl, N0, rfl⟩)
def Q50 (Z : State) (aE : Addr) (sq : Int64) (h0 : Heap) (n0 : Nat) (v : Option Value) (h : Heap) (L : List Loc) : Prop := v = some (.long sq) ∧ Fr n0 L ∧ h = h0
set_option maxRecDepth 65536 in
set_option maxHeartbeats 40000000 in
theorem rm50 (l Z a0) (hw : oW a0 Z) (ws) (aE : Addr) (sq : Int64) (h0 : Heap) (n0 : Nat) (Z0 : n0 ≤ h0.size) (P0 : oF0 Z h0 aE (.long sq)) :
   own_Met l own_y2 kc31 1 (some .long) ws own_r0 #[(.ref aE)] Z h0 (Q50 Z aE sq h0 n0) := by
 refine own_bd #[vR aE] (plainFor_of_name pn_7) fun p e s m below meth c s₁ hx hby hml hrt hlk hZ hown hnm X0 e0 => ?_
 have N0 := Fr.nil n0
 refine o_al X0 hx hby q31_0 ?_
 refine o_g X0 hx hZ hown hw hby e0 P0 16 q31_1 fun T1 X1 e1 => ?_
 exact o_rJ X1 hx hby hrt hlk q31_4 (by rw [e1]; exact ⟨rfl, N0, rfl⟩)
def Q51 (Z : State) (aR : Addr) (pd : Int64) (aO aD : Addr) (h0 : Heap) (n0 : Nat) (v : Option Value) (h : Heap) (L : List Loc) : Prop := ∃ aL : Addr, v = none ∧ Fr n0 L ∧ Keep h0 h [aR] ∧ (h0.size ≤ aL) ∧ (oX4 Z h aL) ∧ (oF3 Z h aR (.ref aL)) ∧ (oF2 Z h aR (.long pd)) ∧ (oF4 Z h aR (.long 0)) ∧ (oF5 Z h aR (.long 0)) ∧ (oF10 Z h aL (.ref aD)) ∧ (oF11 Z h aL (.int 0)) ∧ (oF12 Z h aL (.int 0))
set_option maxRecDepth 65536 in
set_option maxHeartbeats 40000000 in
theorem rm51 (l Z a0) (hw : oW a0 Z) (ws) (aR : Addr) (pd : Int64) (aO aD : Addr) (h0 : Heap) (n0 : Nat) (Z0 : n0 ≤ h0.size) (P0 : oX2 Z h0 aR) (P1 : Old Z n0 h0) (P2 : Sta Z Z.heap "java/util/ArrayList" "DEFAULTCAPACITY_EMPTY_ELEMENTDATA" "[Ljava/lang/Object;" (.ref aD)) (P3 : oF3 Z h0 aR .null) (P4 : oF2 Z h0 aR (.long 0)) (P5 : oF22 Z h0 aR .null) (P6 : oF4 Z h0 aR (.long 0)) (P7 : oF5 Z h0 aR (.long 0)) (P8 : n0 ≤ aR) :
   own_Met l own_y4 kc18 4 none ws own_r22 #[(.ref aR), (.long pd), (.ref aO)] Z h0 (Q51 Z aR pd aO aD h0 n0) := by
 refine own_bd #[vR aR, vJ pd, .second, vR aO] (plainFor_of_name pn_5) fun p e s m below meth c s₁ hx hby hml hrt hlk hZ hown hnm X0 e0 => ?_
 have N0 := Fr.nil n0
 refine o_al X0 hx hby q18_0 ?_
 obtain ⟨T1, X1, e1, st1⟩ := initO X0 hx hZ hown (own_w hw 41 rfl) (own_w hw 14 rfl) (own_w hw 15 rfl) e0 (g := (mkF m 1 #[vR aR, vJ pd, .second, vR aO] [(.ref aR)])) rfl (by rw [hml]; rfl) rfl (hb hby q18_1) (by decide) (W := 0) own_2z (by decide)
 refine oS st1 ?_
 show oG _ _ _ _ (T1.setTop (mkF m 4 #[vR aR, vJ pd, .second, vR aO] []))
 refine o_al X1 hx hby q18_4 ?_
 show oG _ _ _ _ (T1.setTop (mkF m 5 #[vR aR, vJ pd, .second, vR aO] [(.ref aR)]))
 obtain ⟨T2, h2, X2, e2, E2, A2, D2, U2, st2⟩ := newO X1 hx hZ hown (own_w hw 42 rfl) (own_w hw 43 rfl) (own_w hw 44 rfl) e1 (g := (mkF m 5 #[vR aR, vJ pd, .second, vR aO] [(.ref aR)])) rfl (hb hby q18_5) (by decide) (by decide)
 obtain ⟨b2, g2⟩ : ∃ z, z = h0.size := ⟨_, rfl⟩
 rw [← g2] at A2 D2 U2 st2
 refine oS st2 ?_
 have ne3 : aR ≠ b2 := Nat.ne_of_lt (Nat.lt_of_lt_of_le P0.lt (Nat.le_of_eq g2.symm))
 have ge4 : n0 ≤ b2 := Nat.le_trans Z0 (Nat.le_of_eq g2.symm)
 have sz5 : h0.size ≤ b2 := Nat.le_trans (Keep.refl h0 [aR]).1 (Nat.le_of_eq g2.symm)
 have f6 := P0.ext E2
 have f7 := P1.ext E2
 have f8 := P3.ext E2
 have f9 := P4.ext E2
 have f10 := P5.ext E2
 have f11 := P6.ext E2
 have f12 := P7.ext E2
 have K13 := (Keep.refl h0 [aR]).ext E2
 have z14 := Nat.le_trans Z0 E2.1
 have F2_modCount : oF12 Z h2 b2 (.int 0) := D2 (Or.inl (own_w hw 62 rfl)) (ty := .int) ft_1
 have F2_elementData : oF10 Z h2 b2 .null := D2 (Or.inl (own_w hw 65 rfl)) (ty := (.array (.object "java/lang/Object"))) ft_0
 have F2_size : oF11 Z h2 b2 (.int 0) := D2 (Or.inl (own_w hw 172 rfl)) (ty := .int) ft_1
 show oG _ _ _ _ (T2.setTop (mkF m 8 #[vR aR, vJ pd, .second, vR aO] [(.ref b2), (.ref aR)]))
 refine o_dup X2 hx hby q18_8 ?_
 refine o_cK X2 hx hZ hown hw hml hby (rm20 l Z a0 hw [] b2 aD h2 n0 z14 A2 f7 P2 F2_elementData F2_modCount F2_size ge4) rfl e2 45 46 47 44 2 q18_9 [] [(.ref b2), (.ref aR)] pd_7 hy_2 fun v15 T15 L15 hQ15 X15 => ?_
 obtain ⟨rfl, Nq15, Kq15, p15_0, p15_1, p15_2⟩ := hQ15
 have N15 := Fr.app N0 Nq15
 have f16 := f6.keep Kq15
 have f17 := f7.keep Kq15 (allS ge4 all0)
 have f18 := f8.keep Kq15 (ninS ne3 nin0)
 have f19 := f9.keep Kq15 (ninS ne3 nin0)
 have f20 := f10.keep Kq15 (ninS ne3 nin0)
 have f21 := f11.keep Kq15 (ninS ne3 nin0)
 have f22 := f12.keep Kq15 (ninS ne3 nin0)
 have f23 := A2.keep Kq15
 have K24 := K13.trans Kq15 (allS (Or.inr sz5) all0)
 have z25 := Nat.le_trans z14 Kq15.1
 refine oN ?_
 refine o_pF X15 hx hZ hown hby (own_w hw 66 rfl) Via.refl rfl f18 f16 (Or.inr ⟨(own_w hw 67 rfl), rfl, hnm⟩) (own_w hw 30 rfl) ft_4 q18_12 fun T26 h26 X26 e26 W26 => ?_
 have N26 := Fr.snoc X26 N15 P8
 have Fw26 := f18.same W26
 have f27 := f16.wr W26
 have f28 := f17.wr W26 P8
 have f29 := f19.other W26 (Or.inr (sn_27 hw))
 have f30 := f20.other W26 (Or.inr (sn_28 hw))
 have f31 := f21.other W26 (Or.inr (sn_29 hw))
 have f32 := f22.other W26 (Or.inr (sn_30 hw))
 have f33 := f23.wr W26
 have f34 := p15_0.other W26 (Or.inl (Ne.symm ne3))
 have f35 := p15_1.other W26 (Or.inl (Ne.symm ne3))
 have f36 := p15_2.other W26 (Or.inl (Ne.symm ne3))
 have K37 := K24.wr W26 (ow 0 rfl)
 have z38 := Nat.le_trans z25 (Keep.of_wr W26).1
 refine o_al X26 hx hby q18_15 ?_
 refine o_ll X26 hx hby q18_16 ?_
 refine o_pF X26 hx hZ hown hby (own_w hw 68 rfl) Via.refl e26 f29 f27 (Or.inr ⟨(own_w hw 69 rfl), rfl, hnm⟩) (own_w hw 30 rfl) ft_2 q18_17 fun T39 h39 X39 e39 W39 => ?_
 have N39 := Fr.snoc X39 N26 P8
 have Fw39 := f29.same W39
 have f40 := f27.wr W39
 have f41 := f28.wr W39 P8
 have f42 := f30.other W39 (Or.inr (sn_31 hw))
 have f43 := f31.other W39 (Or.inr (sn_32 hw))
 have f44 := f32.other W39 (Or.inr (sn_33 hw))
 have f45 := f33.wr W39
 have f46 := f34.other W39 (Or.inl (Ne.symm ne3))
 have f47 := f35.other W39 (Or.inl (Ne.symm ne3))
 have f48 := f36.other W39 (Or.inl (Ne.symm ne3))
 have f49 := Fw26.other W39 (Or.inr (sn_34 hw))
 have K50 := K37.wr W39 (ow 0 rfl)
 have z51 := Nat.le_trans z38 (Keep.of_wr W39).1
 refine o_al X39 hx hby q18_20 ?_
 refine o_al X39 hx hby q18_21 ?_
 refine o_pF X39 hx hZ hown hby (own_w hw 70 rfl) Via.refl e39 f42 f40 (Or.inr ⟨(own_w hw 71 rfl), rfl, hnm⟩) (own_w hw 30 rfl) ft_6 q18_22 fun T52 h52 X52 e52 W52 => ?_
 have N52 := Fr.snoc X52 N39 P8
 have Fw52 := f42.same W52
 have f53 := f40.wr W52
 have f54 := f41.wr W52 P8
 have f55 := f43.other W52 (Or.inr (sn_35 hw))
 have f56 := f44.other W52 (Or.inr (sn_36 hw))
 have f57 := f45.wr W52
 have f58 := f46.other W52 (Or.inl (Ne.symm ne3))
 have f59 := f47.other W52 (Or.inl (Ne.symm ne3))
 have f60 := f48.other W52 (Or.inl (Ne.symm ne3))
 have f61 := f49.other W52 (Or.inr (sn_37 hw))
 have f62 := Fw39.other W52 (Or.inr (sn_38 hw))
 have K63 := K50.wr W52 (ow 0 rfl)
 have z64 := Nat.le_trans z51 (Keep.of_wr W52).1
 exact o_rv X52 hx hby hrt hlk q18_25 (by rw [e52]; exact ⟨b2, rfl, N52, K63, sz5, f57, f61, f62, f55, f56, f58, f60, f59⟩)
def Q52 (Z : State) (aR : Addr) (pd : Int64) (aD aO : Addr) (h0 : Heap) (n0 : Nat) (v : Option Value) (h : Heap) (L : List Loc) : Prop := ∃ aL : Addr, v = none ∧ Fr n0 L ∧ Keep h0 h [aR] ∧ (h0.size ≤ aL) ∧ (oX4 Z h aL) ∧ (oF3 Z h aR (.ref aL)) ∧ (oF2 Z h aR (.long pd)) ∧ (oF4 Z h aR (.long 0)) ∧ (oF5 Z h aR (.long 0)) ∧ (oF10 Z h aL (.ref aD)) ∧ (oF11 Z h aL (.int 0)) ∧ (oF12 Z h aL (.int 0))
set_option maxRecDepth 65536 in
set_option maxHeartbeats 40000000 in
theorem rm52 (l Z a0) (hw : oW a0 Z) (ws) (aR : Addr) (pd : Int64) (aD aO : Addr) (h0 : Heap) (n0 : Nat) (Z0 : n0 ≤ h0.size) (P0 : oX2 Z h0 aR) (P1 : Old Z n0 h0) (P2 : Sta Z Z.heap "java/util/ArrayList" "DEFAULTCAPACITY_EMPTY_ELEMENTDATA" "[Ljava/lang/Object;" (.ref aD)) (P3 : oF3 Z h0 aR .null) (P4 : oF2 Z h0 aR (.long 0)) (P5 : oF22 Z h0 aR .null) (P6 : oF4 Z h0 aR (.long 0)) (P7 : oF5 Z h0 aR (.long 0)) (P8 : n0 ≤ aR) (P9 : Sta Z Z.heap "com/example/lockstep/lockstep/session/FrameRoom$Order" "LARGEST" "Lcom/example/lockstep/lockstep/session/FrameRoom$Order;" (.ref aO)) :
   own_Met l own_y3 kc8 3 none ws own_r26 #[(.ref aR), (.long pd)] Z h0 (Q52 Z aR pd aD aO h0 n0) := by
 refine own_bd #[vR aR, vJ pd, .second] (plainFor_of_name pn_5) fun p e s m below meth c s₁ hx hby hml hrt hlk hZ hown hnm X0 e0 => ?_
 have N0 := Fr.nil n0
 refine o_al X0 hx hby q8_0 ?_
 refine o_ll X0 hx hby q8_1 ?_
 obtain ⟨T1, X1, e1, st1⟩ := getS2 X0 hx hZ hown (host := "") (Or.inl (own_w hw 35 rfl)) Via.refl e0 (P9.ext P1.2) (g := (mkF m 2 #[vR aR, vJ pd, .second] [(.long pd), (.ref aR)])) rfl (hb hby q8_2)
 refine oS st1 ?_
 show oG _ _ _ _ (T1.setTop (mkF m 5 #[vR aR, vJ pd, .second] [(.ref aO), (.long pd), (.ref aR)]))
 refine o_cK X1 hx hZ hown hw hml hby (rm51 l Z a0 hw [] aR pd aO aD h0 n0 Z0 P0 P1 P2 P3 P4 P5 P6 P7 P8) rfl e1 38 39 40 31 0 q8_5 [(.long pd), (.ref aO)] [] pd_18 hy_7 fun v2 T2 L2 hQ2 X2 => ?_
 obtain ⟨aL3, rfl, Nq2, Kq2, p2_0, p2_1, p2_2, p2_3, p2_4, p2_5, p2_6, p2_7, p2_8⟩ := hQ2
 have N2 := Fr.app N0 Nq2
 have ne4 : aR ≠ aL3 := Nat.ne_of_lt (Nat.lt_of_lt_of_le P0.lt p2_0)
 have ge5 : n0 ≤ aL3 := Nat.le_trans Z0 p2_0
 have sz6 : h0.size ≤ aL3 := Nat.le_trans (Keep.refl h0 [aR]).1 p2_0
 have f7 := P0.keep Kq2
 have f8 := P1.keep Kq2 (allS P8 all0)
 have K9 := own_ktr (Keep.refl h0 [aR]) Kq2
 have z10 := Nat.le_trans Z0 Kq2.1
 refine oN ?_
 exact o_rv X2 hx hby hrt hlk q8_8 ⟨aL3, rfl, N2, K9, sz6, p2_1, p2_2, p2_3, p2_4, p2_5, p2_6, p2_7, p2_8⟩
def Q53 (Z : State) (aS aR aF : Addr) (h0 : Heap) (n0 : Nat) (v : Option Value) (h : Heap) (L : List Loc) : Prop := v = none ∧ Fr n0 L ∧ Keep h0 h [aS] ∧ (oF6 Z h aS (.ref aR)) ∧ (oF7 Z h aS (.long 0)) ∧ (oF8 Z h aS (.long 0)) ∧ (oF9 Z h aS (.int (-1)))
set_option maxRecDepth 65536 in
set_option maxHeartbeats 40000000 in
theorem rm53 (l Z a0) (hw : oW a0 Z) (ws) (aS aR aF : Addr) (h0 : Heap) (n0 : Nat) (Z0 : n0 ≤ h0.size) (P0 : oX3 Z h0 aS) (P1 : oF6 Z h0 aS .null) (P2 : oF7 Z h0 aS (.long 0)) (P3 : oF8 Z h0 aS (.long 0)) (P4 : oF9 Z h0 aS (.int 0)) (P5 : oF23 Z h0 aS .null) (P6 : n0 ≤ aS) :
   own_Met l own_y14 kc6 3 none ws own_r2 #[(.ref aS), (.ref aR), (.ref aF)] Z h0 (Q53 Z aS aR aF  h0 n0) := by
 refine own_bd #[vR aS, vR aR, vR aF] (plainFor_of_name pn_6) fun p e s m below meth c s₁ hx hby hml hrt hlk hZ hown hnm X0 e0 => ?_
 have N0 := Fr.nil n0
 refine o_al X0 hx hby q6_0 ?_
 refine o_al X0 hx hby q6_1 ?_
 refine o_pF X0 hx hZ hown hby (own_w hw 98 rfl) Via.refl e0 P1 P0 (Or.inr ⟨(own_w hw 99 rfl), rfl, hnm⟩) (own_w hw 93 rfl) ft_3 q6_2 fun T1 h1 X1 e1 W1 => ?_
 have N1 := Fr.snoc X1 N0 P6
 have Fw1 := P1.same W1
 have f2 := P0.wr W1
 have f3 := P2.other W1 (Or.inr (sn_39 hw))
 have f4 := P3.other W1 (Or.inr (sn_40 hw))
 have f5 := P4.other W1 (Or.inr (sn_41 hw))
 have f6 := P5.other W1 (Or.inr (sn_42 hw))
 have K7 := (Keep.refl h0 [aS]).wr W1 (ow 0 rfl)
 have z8 := Nat.le_trans Z0 (Keep.of_wr W1).1
 refine o_al X1 hx hby q6_5 ?_
 obtain ⟨T9, X9, e9, st9⟩ := initO X1 hx hZ hown (own_w hw 100 rfl) (own_w hw 14 rfl) (own_w hw 15 rfl) e1 (g := (mkF m 6 #[vR aS, vR aR, vR aF] [(.ref aS)])) rfl (by rw [hml]; rfl) rfl (hb hby q6_6) (by decide) (W := 0) own_2z (by decide)
 refine oS st9 ?_
 show oG _ _ _ _ (T9.setTop (mkF m 9 #[vR aS, vR aR, vR aF] []))
 refine o_al X9 hx hby q6_9 ?_
 refine o_ic X9 hx hby (-1) q6_10 ?_
 refine o_pF X9 hx hZ hown hby (own_w hw 101 rfl) Via.refl e9 f5 f2 (Or.inl (own_w hw 102 rfl)) (own_w hw 93 rfl) ft_1 q6_11 fun T10 h10 X10 e10 W10 => ?_
 have N10 := Fr.snoc X10 N1 P6
 have Fw10 := f5.same W10
 have f11 := f2.wr W10
 have f12 := f3.other W10 (Or.inr (sn_6 hw))
 have f13 := f4.other W10 (Or.inr (sn_7 hw))
 have f14 := f6.other W10 (Or.inr (sn_43 hw))
 have f15 := Fw1.other W10 (Or.inr (sn_8 hw))
 have K16 := K7.wr W10 (ow 0 rfl)
 have z17 := Nat.le_trans z8 (Keep.of_wr W10).1
 refine o_al X10 hx hby q6_14 ?_
 refine o_al X10 hx hby q6_15 ?_
 refine o_pF X10 hx hZ hown hby (own_w hw 103 rfl) Via.refl e10 f14 f11 (Or.inr ⟨(own_w hw 104 rfl), rfl, hnm⟩) (own_w hw 93 rfl) ft_7 q6_16 fun T18 h18 X18 e18 W18 => ?_
 have N18 := Fr.snoc X18 N10 P6
 have Fw18 := f14.same W18
 have f19 := f11.wr W18
 have f20 := f12.other W18 (Or.inr (sn_44 hw))
 have f21 := f13.other W18 (Or.inr (sn_45 hw))
 have f22 := f15.other W18 (Or.inr (sn_46 hw))
 have f23 := Fw10.other W18 (Or.inr (sn_47 hw))
 have K24 := K16.wr W18 (ow 0 rfl)
 have z25 := Nat.le_trans z17 (Keep.of_wr W18).1
 exact o_rv X18 hx hby hrt hlk q6_19 (by rw [e18]; exact ⟨rfl, N18, K24, f22, f20, f21, f23⟩)
def Q54 (Z : State) (aR aF : Addr) (h0 : Heap) (n0 : Nat) (v : Option Value) (h : Heap) (L : List Loc) : Prop := ∃ aS : Addr, v = some (.ref aS) ∧ Fr n0 L ∧ Keep h0 h [] ∧ (h0.size ≤ aS) ∧ (oX3 Z h aS) ∧ (oF6 Z h aS (.ref aR)) ∧ (oF7 Z h aS (.long 0)) ∧ (oF8 Z h aS (.long 0)) ∧ (oF9 Z h aS (.int (-1)))
set_option maxRecDepth 65536 in
set_option maxHeartbeats 40000000 in
theorem rm54 (l Z a0) (hw : oW a0 Z) (ws) (aR aF : Addr) (h0 : Heap) (n0 : Nat) (Z0 : n0 ≤ h0.size)  :
   own_Met l own_y9 kc7 2 (some (.object "com/example/lockstep/lockstep/session/FrameRoom$Share")) ws own_r12 #[(.ref aR), (.ref aF)] Z h0 (Q54 Z aR aF  h0 n0) := by
 refine own_bd #[vR aR, vR aF] (plainFor_of_name pn_5) fun p e s m below meth c s₁ hx hby hml hrt hlk hZ hown hnm X0 e0 => ?_
 have N0 := Fr.nil n0
 obtain ⟨T1, h1, X1, e1, E1, A1, D1, U1, st1⟩ := newO X0 hx hZ hown (own_w hw 92 rfl) (own_w hw 93 rfl) (own_w hw 94 rfl) e0 (g := (mkF m 0 #[vR aR, vR aF] [])) rfl (hb hby q7_0) (by decide) (by decide)
 obtain ⟨b1, g1⟩ : ∃ z, z = h0.size := ⟨_, rfl⟩
 rw [← g1] at A1 D1 U1 st1
 refine oS st1 ?_
 have ge2 : n0 ≤ b1 := Nat.le_trans Z0 (Nat.le_of_eq g1.symm)
 have sz3 : h0.size ≤ b1 := Nat.le_trans (Keep.refl h0 []).1 (Nat.le_of_eq g1.symm)
 have K4 := (Keep.refl h0 []).ext E1
 have z5 := Nat.le_trans Z0 E1.1
 have F1_this_0 : oF6 Z h1 b1 .null := D1 (Or.inr (own_w hw 99 rfl)) (ty := (.object "com/example/lockstep/lockstep/session/FrameRoom")) ft_3
 have F1_slot : oF9 Z h1 b1 (.int 0) := D1 (Or.inl (own_w hw 102 rfl)) (ty := .int) ft_1
 have F1_shed : oF23 Z h1 b1 .null := D1 (Or.inr (own_w hw 104 rfl)) (ty := (.object "java/lang/Runnable")) ft_7
 have F1_held : oF7 Z h1 b1 (.long 0) := D1 (Or.inl (own_w hw 141 rfl)) (ty := .long) ft_2
 have F1_moved : oF8 Z h1 b1 (.long 0) := D1 (Or.inl (own_w hw 156 rfl)) (ty := .long) ft_2
 show oG _ _ _ _ (T1.setTop (mkF m 3 #[vR aR, vR aF] [(.ref b1)]))
 refine o_dup X1 hx hby q7_3 ?_
 refine o_al X1 hx hby q7_4 ?_
 refine o_al X1 hx hby q7_5 ?_
 obtain ⟨vr6, _, ⟨T6, L6, k6, n6⟩, -, X6, ⟨Lc6, hQ6, l6, y6, z6⟩, st6⟩ := own_refBack X1 hx (y := own_y14) rfl hown hZ (own_w hw 95 rfl) (own_w hw 96 rfl) (mvT hZ (own_w hw 96 rfl)) (mvT hZ (own_w hw 97 rfl)) (by decide) (backOf (W := 1) (rm53 l Z a0 hw [] b1 aR aF  h1 n0 z5 A1 F1_this_0 F1_held F1_moved F1_slot F1_shed ge2) hZ (own_w hw 97 rfl) (own_w hw 94 rfl) (by decide) (by decide)) (g := (mkF m 6 #[vR aR, vR aF] [(.ref aF), (.ref aR), (.ref b1), (.ref b1)])) rfl (by rw [hml]; rfl) (Steps.refl _) (a := b1) (argsL := [(.ref aR), (.ref aF)]) (rest := [(.ref b1)]) (lenOf pd_19 rfl) rfl own_2z (hb hby q7_6) (fun _ _ => ⟨rfl, e1, (by decide : 1 + 0 ≤ _), (by decide : 5 + 0 ≤ _)⟩)
 dsimp only [Pt.U, Pt.locs, Pt.cells, Pt.slots] at X6 l6 y6 z6 st6 hQ6
 subst l6 y6 z6
 obtain ⟨rfl, Nq6, Kq6, p6_0, p6_1, p6_2, p6_3⟩ := hQ6
 have N6 := Fr.app N0 Nq6
 have f7 := A1.keep Kq6
 have K8 := K4.trans Kq6 (allS (Or.inr sz3) all0)
 have z9 := Nat.le_trans z5 Kq6.1
 refine oS (fun _ κ => st6.trans κ) ?_
 show oG _ _ _ _ (T6.setTop (mkF m 9 #[vR aR, vR aF] [(.ref b1)]))
 exact o_rA X6 hx hby hrt hlk q7_9 ⟨b1, rfl, N6, K8, sz3, f7, p6_0, p6_1, p6_2, p6_3⟩
theorem ef_55 (m : MethodId) (aH : Addr) (pM : Int32) (pB : Int64) (aR : Addr) : entryFrame m #[(.ref aH), (.int pM), (.long pB), (.ref aR)] 5 = mkF m 0 #[.val (.ref aH), .val (.int pM), .val (.long pB), .second, .val (.ref aR)] [] := by first | (simp [entryFrame, mkF, argsToLocals, Value.category]; done) | rfl
def Q55 (Z : State) (aH : Addr) (pM : Int32) (pB : Int64) (aR aL aD : Addr) (bd : Int64) (h0 : Heap) (n0 : Nat) (v : Option Value) (h : Heap) (L : List Loc) : Prop := ∃ aG : Addr, ∃ aS : Addr, v = none ∧ Fr n0 L ∧ Keep h0 h [aH] ∧ (h0.size ≤ aG) ∧ (h0.size ≤ aS) ∧ (own_Hi Z h aH pM pB aS aG (0 : Int32) (0 : Int32) (0 : Int64) (0 : Int64)) ∧ (own_RE Z h aG (0 : Int32) own_nulls) ∧ (own_Rm Z h aR aS aL aD bd (0 : Int64) (-1 : Int32) (0 : Int32))
set_option maxRecDepth 65536 in
set_option maxHeartbeats 40000000 in
theorem rm55 (l Z a0) (hw : oW a0 Z) (ws) (aH : Addr) (pM : Int32) (pB : Int64) (aR aL aD : Addr) (bd : Int64) (h0 : Heap) (n0 : Nat) (Z0 : n0 ≤ h0.size) (P0 : oX5 Z h0 aH) (P1 : oF13 Z h0 aH (.int 0)) (P2 : oF14 Z h0 aH (.long 0)) (P3 : oF15 Z h0 aH .null) (P4 : oF16 Z h0 aH .null) (P5 : oF17 Z h0 aH (.int 0)) (P6 : oF18 Z h0 aH (.int 0)) (P7 : oF19 Z h0 aH (.long 0)) (P8 : oF20 Z h0 aH (.long 0)) (P9 : oX2 Z h0 aR) (P10 : oF3 Z h0 aR (.ref aL)) (P11 : oF2 Z h0 aR (.long bd)) (P12 : oF4 Z h0 aR (.long 0)) (P13 : oF5 Z h0 aR (.long 0)) (P14 : oX4 Z h0 aL) (P15 : oF10 Z h0 aL (.ref aD)) (P16 : oF11 Z h0 aL (.int 0)) (P17 : oF12 Z h0 aL (.int 0)) (P18 : n0 ≤ aH) :
   MetFree l own_y17 (head1 (Jvm.Cond.code own_y17 kc32 5 none :: ws) own_r18) (fun ar_ U => ar_ = #[(.ref aH), (.int pM), (.long pB), (.ref aR)] ∧ Z.Warmed39 U.vm ∧ U.heap = h0 ∧ Z.WarmedH U.vm) (fun _ _ _ _ _ => True) (fun _ U oo_ U' => ∃ v L, oo_ = .returned v ∧ Q55 Z aH pM pB aR aL aD bd h0 n0 v U'.heap L ∧ FrameEnd U oo_ U' L own_r18.cells own_r18.slots) := by
 refine MetFree.of_bodySF (plainFor_of_name pn_8) hisR ?_
 intro p e s m args below meth c s₁ Bd hml0 hP hK
 obtain ⟨rfl, hZ, hh, hH⟩ := hP
 have hx := Bd.exec
 have hby := Bd.bytes
 have hml : c.maxLocals = 5 := hml0
 have hown : s.vm.findClass "com/example/lockstep/lockstep/session/History" = some m.cls := findClass_of_methodNamed Bd.named
 have hnm := (name_of_methodNamed Bd.named Bd.method).1
 have X0 : Stand p l e own_r18 s m #[(.ref aH), (.int pM), (.long pB), (.ref aR)] below meth c s₁ [] 0 0 := Stand.of_body Bd
 have e0 : s₁.heap = h0 := by rw [← hh, Bd.state]; rfl
 have N0 := Fr.nil n0
 refine own_in (castTop (ef_55 m aH pM pB aR)) ?_
 show oG _ _ _ _ (s₁.setTop (mkF m 0 #[vR aH, vI pM, vJ pB, .second, vR aR] []))
 refine o_al X0 hx hby q32_0 ?_
 obtain ⟨T1, X1, e1, st1⟩ := initO X0 hx hZ hown (own_w hw 75 rfl) (own_w hw 14 rfl) (own_w hw 15 rfl) e0 (g := (mkF m 1 #[vR aH, vI pM, vJ pB, .second, vR aR] [(.ref aH)])) rfl (by rw [hml]; rfl) rfl (hb hby q32_1) (by decide) (W := 0) own_2z (by decide)
 refine oS st1 ?_
 show oG _ _ _ _ (T1.setTop (mkF m 4 #[vR aH, vI pM, vJ pB, .second, vR aR] []))
 refine o_al X1 hx hby q32_4 ?_
 refine o_ic X1 hx hby 0 q32_5 ?_
 show oG _ _ _ _ (T1.setTop (mkF m 6 #[vR aH, vI pM, vJ pB, .second, vR aR] [(.int 0), (.ref aH)]))
 obtain ⟨T2, h2, k2, X2, e2, E2, A2, Ex2, O2, st2⟩ := newRE X1 hx hZ hown (own_w hw 76 rfl) (own_w hw 23 rfl) e1 (g := (mkF m 6 #[vR aH, vI pM, vJ pB, .second, vR aR] [(.int 0), (.ref aH)])) rfl (hb hby q32_6) rfl (by decide) (cap := 0) (by decide) (by decide) (by decide) (by decide) (ad := "[Lcom/example/lockstep/lockstep/session/Event;") (by decide)
 obtain ⟨b2, g2⟩ : ∃ z, z = h0.size := ⟨_, rfl⟩
 rw [← g2] at A2 Ex2 st2
 refine oS st2 ?_
 have ne3 : aH ≠ b2 := Nat.ne_of_lt (Nat.lt_of_lt_of_le P0.lt (Nat.le_of_eq g2.symm))
 have ne4 : aR ≠ b2 := Nat.ne_of_lt (Nat.lt_of_lt_of_le P9.lt (Nat.le_of_eq g2.symm))
 have ne5 : aL ≠ b2 := Nat.ne_of_lt (Nat.lt_of_lt_of_le P14.lt (Nat.le_of_eq g2.symm))
 have ge6 : n0 ≤ b2 := Nat.le_trans Z0 (Nat.le_of_eq g2.symm)
 have sz7 : h0.size ≤ b2 := Nat.le_trans (Keep.refl h0 [aH]).1 (Nat.le_of_eq g2.symm)
 have f8 := P0.ext E2
 have f9 := P1.ext E2
 have f10 := P2.ext E2
 have f11 := P3.ext E2
 have f12 := P4.ext E2
 have f13 := P5.ext E2
 have f14 := P6.ext E2
 have f15 := P7.ext E2
 have f16 := P8.ext E2
 have f17 := P9.ext E2
 have f18 := P10.ext E2
 have f19 := P11.ext E2
 have f20 := P12.ext E2
 have f21 := P13.ext E2
 have f22 := P14.ext E2
 have f23 := P15.ext E2
 have f24 := P16.ext E2
 have f25 := P17.ext E2
 have K26 := (Keep.refl h0 [aH]).ext E2
 have z27 := Nat.le_trans Z0 E2.1
 have V2 : own_RE Z h2 b2 (0 : Int32) own_nulls := own_Rg.new A2 O2 Ex2 (by decide) (Nat.le_trans (m := 0) (by decide) (by decide))
 show oG _ _ _ _ (T2.setTop (mkF m 9 #[vR aH, vI pM, vJ pB, .second, vR aR] [(.ref b2), (.ref aH)]))
 refine o_pF X2 hx hZ hown hby (own_w hw 77 rfl) Via.refl e2 f12 f8 (Or.inl (own_w hw 78 rfl)) (own_w hw 27 rfl) ft_8 q32_9 fun T28 h28 X28 e28 W28 => ?_
 have N28 := Fr.snoc X28 N0 P18
 have Fw28 := f12.same W28
 have f29 := f8.wr W28
 have f30 := f9.other W28 (Or.inr (sn_48 hw))
 have f31 := f10.other W28 (Or.inr (sn_49 hw))
 have f32 := f11.other W28 (Or.inr (sn_50 hw))
 have f33 := f13.other W28 (Or.inr (sn_51 hw))
 have f34 := f14.other W28 (Or.inr (sn_52 hw))
 have f35 := f15.other W28 (Or.inr (sn_53 hw))
 have f36 := f16.other W28 (Or.inr (sn_54 hw))
 have f37 := f17.wr W28
 have ne38 := own_neE f17 f8 ns_6
 have f39 := f18.other W28 (Or.inl ne38)
 have f40 := f19.other W28 (Or.inl ne38)
 have f41 := f20.other W28 (Or.inl ne38)
 have f42 := f21.other W28 (Or.inl ne38)
 have f43 := f22.wr W28
 have ne44 := own_neE f22 f8 (Ne.symm ns_7)
 have f45 := f23.other W28 (Or.inl ne44)
 have f46 := f24.other W28 (Or.inl ne44)
 have f47 := f25.other W28 (Or.inl ne44)
 have f48 := V2.other W28 (Ne.symm ne3)
 have K49 := K26.wr W28 (ow 0 rfl)
 have z50 := Nat.le_trans z27 (Keep.of_wr W28).1
 refine o_al X28 hx hby q32_12 ?_
 refine o_il X28 hx hby q32_13 ?_
 refine o_pF X28 hx hZ hown hby (own_w hw 79 rfl) Via.refl e28 f30 f29 (Or.inr ⟨(own_w hw 80 rfl), rfl, hnm⟩) (own_w hw 27 rfl) ft_1 q32_14 fun T51 h51 X51 e51 W51 => ?_
 have N51 := Fr.snoc X51 N28 P18
 have Fw51 := f30.same W51
 have f52 := f29.wr W51
 have f53 := f31.other W51 (Or.inr (sn_55 hw))
 have f54 := f32.other W51 (Or.inr (sn_56 hw))
 have f55 := f33.other W51 (Or.inr (sn_57 hw))
 have f56 := f34.other W51 (Or.inr (sn_58 hw))
 have f57 := f35.other W51 (Or.inr (sn_59 hw))
 have f58 := f36.other W51 (Or.inr (sn_60 hw))
 have f59 := f37.wr W51
 have f60 := f39.other W51 (Or.inl ne38)
 have f61 := f40.other W51 (Or.inl ne38)
 have f62 := f41.other W51 (Or.inl ne38)
 have f63 := f42.other W51 (Or.inl ne38)
 have f64 := f43.wr W51
 have f65 := f45.other W51 (Or.inl ne44)
 have f66 := f46.other W51 (Or.inl ne44)
 have f67 := f47.other W51 (Or.inl ne44)
 have f68 := f48.other W51 (Ne.symm ne3)
 have f69 := Fw28.other W51 (Or.inr (sn_61 hw))
 have K70 := K49.wr W51 (ow 0 rfl)
 have z71 := Nat.le_trans z50 (Keep.of_wr W51).1
 refine o_al X51 hx hby q32_17 ?_
 refine o_ll X51 hx hby q32_18 ?_
 refine o_pF X51 hx hZ hown hby (own_w hw 81 rfl) Via.refl e51 f53 f52 (Or.inr ⟨(own_w hw 82 rfl), rfl, hnm⟩) (own_w hw 27 rfl) ft_2 q32_19 fun T72 h72 X72 e72 W72 => ?_
 have N72 := Fr.snoc X72 N51 P18
 have Fw72 := f53.same W72
 have f73 := f52.wr W72
 have f74 := f54.other W72 (Or.inr (sn_62 hw))
 have f75 := f55.other W72 (Or.inr (sn_63 hw))
 have f76 := f56.other W72 (Or.inr (sn_64 hw))
 have f77 := f57.other W72 (Or.inr (sn_65 hw))
 have f78 := f58.other W72 (Or.inr (sn_66 hw))
 have f79 := f59.wr W72
 have f80 := f60.other W72 (Or.inl ne38)
 have f81 := f61.other W72 (Or.inl ne38)
 have f82 := f62.other W72 (Or.inl ne38)
 have f83 := f63.other W72 (Or.inl ne38)
 have f84 := f64.wr W72
 have f85 := f65.other W72 (Or.inl ne44)
 have f86 := f66.other W72 (Or.inl ne44)
 have f87 := f67.other W72 (Or.inl ne44)
 have f88 := f68.other W72 (Ne.symm ne3)
 have f89 := f69.other W72 (Or.inr (sn_67 hw))
 have f90 := Fw51.other W72 (Or.inr (sn_68 hw))
 have K91 := K70.wr W72 (ow 0 rfl)
 have z92 := Nat.le_trans z71 (Keep.of_wr W72).1
 refine o_al X72 hx hby q32_22 ?_
 refine o_aw X72 hx hby q32_23 ?_
 refine o_al X72 hx hby q32_25 ?_
 show oG _ _ _ _ (T72.setTop (mkF m 26 #[vR aH, vI pM, vJ pB, .second, vR aR] [(.ref aH), (.ref aR), (.ref aH)]))
 obtain ⟨T93, h93, X93, e93, E93, lz93, st93⟩ := own_lam X72 hx hZ hH Bd.named (own_w hw 83 rfl) rfl rfl (fi := 15) (by decide +kernel) (own_w hw 86 rfl) e72 (g := (mkF m 26 #[vR aH, vI pM, vJ pB, .second, vR aR] [(.ref aH), (.ref aR), (.ref aH)])) rfl rfl (by rw [hml]; rfl) (hb hby q32_26) rfl rfl (W := 3) (by show _ ≤ _; exact Nat.le_of_eq rfl) (by decide) (by decide) (by decide)
 obtain ⟨b93, g93⟩ : ∃ z, z = h72.size := ⟨_, rfl⟩
 rw [← g93] at st93
 refine oS st93 ?_
 have ne94 : aH ≠ b93 := Nat.ne_of_lt (Nat.lt_of_lt_of_le f73.lt (Nat.le_of_eq g93.symm))
 have ne95 : aR ≠ b93 := Nat.ne_of_lt (Nat.lt_of_lt_of_le f79.lt (Nat.le_of_eq g93.symm))
 have ne96 : aL ≠ b93 := Nat.ne_of_lt (Nat.lt_of_lt_of_le f84.lt (Nat.le_of_eq g93.symm))
 have ne97 : b2 ≠ b93 := Nat.ne_of_lt (Nat.lt_of_lt_of_le f88.lt (Nat.le_of_eq g93.symm))
 have ge98 : n0 ≤ b93 := Nat.le_trans z92 (Nat.le_of_eq g93.symm)
 have sz99 : h0.size ≤ b93 := Nat.le_trans K91.1 (Nat.le_of_eq g93.symm)
 have f100 := f73.ext E93
 have f101 := f74.ext E93
 have f102 := f75.ext E93
 have f103 := f76.ext E93
 have f104 := f77.ext E93
 have f105 := f78.ext E93
 have f106 := f79.ext E93
 have f107 := f80.ext E93
 have f108 := f81.ext E93
 have f109 := f82.ext E93
 have f110 := f83.ext E93
 have f111 := f84.ext E93
 have f112 := f85.ext E93
 have f113 := f86.ext E93
 have f114 := f87.ext E93
 have f115 := f88.ext E93
 have f116 := f89.ext E93
 have f117 := f90.ext E93
 have f118 := Fw72.ext E93
 have K119 := K91.ext E93
 have z120 := Nat.le_trans z92 E93.1
 show oG _ _ _ _ (T93.setTop (mkF m 31 #[vR aH, vI pM, vJ pB, .second, vR aR] [(.ref b93), (.ref aR), (.ref aH)]))
 refine o_cV X93 hx hZ hown hw hml hby (rm54 l Z a0 hw [] aR b93  h93 n0 z120 ) f106 e93 87 88 90 89 91 31 1 q32_31 [(.ref b93)] [(.ref aH)] pd_20 hy_7 fun v121 T121 L121 hQ121 X121 => ?_
 obtain ⟨aS122, rfl, Nq121, Kq121, p121_0, p121_1, p121_2, p121_3, p121_4, p121_5⟩ := hQ121
 have N121 := Fr.app N72 Nq121
 have ne123 : aH ≠ aS122 := Nat.ne_of_lt (Nat.lt_of_lt_of_le f100.lt p121_0)
 have ne124 : aR ≠ aS122 := Nat.ne_of_lt (Nat.lt_of_lt_of_le f106.lt p121_0)
 have ne125 : aL ≠ aS122 := Nat.ne_of_lt (Nat.lt_of_lt_of_le f111.lt p121_0)
 have ne126 : b2 ≠ aS122 := Nat.ne_of_lt (Nat.lt_of_lt_of_le f115.lt p121_0)
 have ge127 : n0 ≤ aS122 := Nat.le_trans z120 p121_0
 have sz128 : h0.size ≤ aS122 := Nat.le_trans K119.1 p121_0
 have f129 := f100.keep Kq121
 have f130 := f101.keep Kq121 nin0
 have f131 := f102.keep Kq121 nin0
 have f132 := f103.keep Kq121 nin0
 have f133 := f104.keep Kq121 nin0
 have f134 := f105.keep Kq121 nin0
 have f135 := f106.keep Kq121
 have f136 := f107.keep Kq121 nin0
 have f137 := f108.keep Kq121 nin0
 have f138 := f109.keep Kq121 nin0
 have f139 := f110.keep Kq121 nin0
 have f140 := f111.keep Kq121
 have f141 := f112.keep Kq121 nin0
 have f142 := f113.keep Kq121 nin0
 have f143 := f114.keep Kq121 nin0
 have f144 := f115.keep Kq121 nin0
 have f145 := f116.keep Kq121 nin0
 have f146 := f117.keep Kq121 nin0
 have f147 := f118.keep Kq121 nin0
 have K148 := K119.trans Kq121 all0
 have z149 := Nat.le_trans z120 Kq121.1
 refine oV ?_
 refine o_pF X121 hx hZ hown hby (own_w hw 105 rfl) Via.refl rfl f130 f129 (Or.inr ⟨(own_w hw 106 rfl), rfl, hnm⟩) (own_w hw 27 rfl) ft_9 q32_34 fun T150 h150 X150 e150 W150 => ?_
 have N150 := Fr.snoc X150 N121 P18
 have Fw150 := f130.same W150
 have f151 := f129.wr W150
 have f152 := f131.other W150 (Or.inr (sn_69 hw))
 have f153 := f132.other W150 (Or.inr (sn_70 hw))
 have f154 := f133.other W150 (Or.inr (sn_71 hw))
 have f155 := f134.other W150 (Or.inr (sn_72 hw))
 have f156 := f135.wr W150
 have f157 := f136.other W150 (Or.inl ne38)
 have f158 := f137.other W150 (Or.inl ne38)
 have f159 := f138.other W150 (Or.inl ne38)
 have f160 := f139.other W150 (Or.inl ne38)
 have f161 := f140.wr W150
 have f162 := f141.other W150 (Or.inl ne44)
 have f163 := f142.other W150 (Or.inl ne44)
 have f164 := f143.other W150 (Or.inl ne44)
 have f165 := f144.other W150 (Ne.symm ne3)
 have f166 := f145.other W150 (Or.inr (sn_73 hw))
 have f167 := f146.other W150 (Or.inr (sn_74 hw))
 have f168 := f147.other W150 (Or.inr (sn_75 hw))
 have f169 := p121_1.wr W150
 have f170 := p121_2.other W150 (Or.inl (Ne.symm ne123))
 have f171 := p121_3.other W150 (Or.inl (Ne.symm ne123))
 have f172 := p121_4.other W150 (Or.inl (Ne.symm ne123))
 have f173 := p121_5.other W150 (Or.inl (Ne.symm ne123))
 have K174 := K148.wr W150 (ow 0 rfl)
 have z175 := Nat.le_trans z149 (Keep.of_wr W150).1
 obtain ⟨fs, hr, hrun, hended, hW, hsame⟩ := X150.leave (v := none) (fun _ => rfl)
 refine ⟨_, _, X150.returnOut hx Bd.returns (hb hby q32_37) hr, hrun, hended, _, _, rfl, ?_, ⟨_, rfl⟩, hW, hsame.mono (by decide) (by decide)⟩
 show Q55 Z aH pM pB aR aL aD bd h0 n0 _ T150.heap _
 rw [e150]
 exact ⟨b2, aS122, rfl, N150, K174, sz7, sz128, ⟨f151, f167, f168, Fw150, f166, f152, f153, f154, f155⟩, f165, ⟨_, _, _, f156, f158, f157, f159, f160, f169, f170, f171, f172, f173, f161, f162, f163, f164⟩⟩
def Q56 (Z : State) (pk : Int32) (h0 : Heap) (n0 : Nat) (v : Option Value) (h : Heap) (L : List Loc) : Prop := v = some (.long ((pk.toInt64) + (128 : Int64))) ∧ Fr n0 L ∧ h = h0
set_option maxRecDepth 65536 in
set_option maxHeartbeats 40000000 in
theorem rm56 (l Z a0) (hw : oW a0 Z) (ws) (pk : Int32) (h0 : Heap) (n0 : Nat) (Z0 : n0 ≤ h0.size)  :
   own_Met l own_y19 kc12 1 (some .long) ws own_r0 #[(.int pk)] Z h0 (Q56 Z pk  h0 n0) := by
 refine own_bd #[vI pk] (plainFor_of_name pn_8) fun p e s m below meth c s₁ hx hby hml hrt hlk hZ hown hnm X0 e0 => ?_
 have N0 := Fr.nil n0
 refine o_il X0 hx hby q12_0 ?_
 refine o_i2l X0 hx hby q12_1 ?_
 refine oS (fun _ κ => X0.ldc2Long hx hown (mvT hZ (own_w hw 134 rfl)) (g := (mkF m 2 #[vI pk] [(.long (pk.toInt64))])) rfl (hb hby q12_2) _ κ) ?_
 show oG _ _ _ _ (s₁.setTop (mkF m 5 #[vI pk] [(.long 128), (.long (pk.toInt64))]))
 refine o_ladd X0 hx hby q12_5 ?_
 exact o_rJ X0 hx hby hrt hlk q12_6 (by rw [e0]; exact ⟨rfl, N0, rfl⟩)
def Q57 (Z : State) (pb : Int64) (h0 : Heap) (n0 : Nat) (v : Option Value) (h : Heap) (L : List Loc) : Prop := v = some (.long 16) ∧ Fr n0 L ∧ h = h0
set_option maxRecDepth 65536 in
set_option maxHeartbeats 40000000 in
theorem rm57 (l Z a0) (hw : oW a0 Z) (ws) (pb : Int64) (h0 : Heap) (n0 : Nat) (Z0 : n0 ≤ h0.size) (P0 : ¬ (16 : Int64) < pb) :
   own_Met l own_y26 kc26 4 (some .long) ws own_r0 #[(.long 16), (.long pb)] Z h0 (Q57 Z pb  h0 n0) := by
 refine own_bd #[vJ 16, .second, vJ pb, .second] (by decide +kernel) fun p e s m below meth c s₁ hx hby hml hrt hlk hZ hown hnm X0 e0 => ?_
 have N0 := Fr.nil n0
 refine o_ll X0 hx hby q26_0 ?_
 refine o_ll X0 hx hby q26_1 ?_
 refine o_lcmp X0 hx hby q26_2 ?_
 refine o_in X0 hx hby q26_3 ((if0 _ _).trans (flt (fun q => absurd ((lw_lt _ _).mp q) P0)).1) ?_
 refine o_ll X0 hx hby q26_6 ?_
 refine o_gt X0 hx hby q26_7 11 ?_
 exact o_rJ X0 hx hby hrt hlk q26_11 (by rw [e0]; exact ⟨rfl, N0, rfl⟩)
def Q58 (Z : State) (pa : Int64) (h0 : Heap) (n0 : Nat) (v : Option Value) (h : Heap) (L : List Loc) : Prop := v = some (.long pa) ∧ Fr n0 L ∧ h = h0
set_option maxRecDepth 65536 in
set_option maxHeartbeats 40000000 in
theorem rm58 (l Z a0) (hw : oW a0 Z) (ws) (pa : Int64) (h0 : Heap) (n0 : Nat) (Z0 : n0 ≤ h0.size) (P0 : ¬ (16 : Int64) < pa) :
   own_Met l own_y27 kc34 4 (some .long) ws own_r0 #[(.long pa), (.long 16)] Z h0 (Q58 Z pa  h0 n0) := by
 refine own_bd #[vJ pa, .second, vJ 16, .second] (by decide +kernel) fun p e s m below meth c s₁ hx hby hml hrt hlk hZ hown hnm X0 e0 => ?_
 have N0 := Fr.nil n0
 refine o_ll X0 hx hby q34_0 ?_
 refine o_ll X0 hx hby q34_1 ?_
 refine o_lcmp X0 hx hby q34_2 ?_
 refine o_in X0 hx hby q34_3 ((if0 _ _).trans (flt (fun q => absurd ((lw_gt _ _).mp q) P0)).2.2.1) ?_
 refine o_ll X0 hx hby q34_6 ?_
 refine o_gt X0 hx hby q34_7 11 ?_
 exact o_rJ X0 hx hby hrt hlk q34_11 (by rw [e0]; exact ⟨rfl, N0, rfl⟩)
def Q59 (Z : State) (aH : Addr) (pM M : Int32) (mb : Int64) (aS aG : Addr) (hd : Int32) (by_ ls : Int64) (h0 : Heap) (n0 : Nat) (v : Option Value) (h : Heap) (L : List Loc) : Prop := ∃ r : Addr, v = none ∧ Fr n0 L ∧ Keep h0 h [aH] ∧ (h0.size ≤ r) ∧ (own_Hi Z h aH M mb aS r (0 : Int32) (0 : Int32) by_ ls) ∧ (own_RE Z h r pM own_nulls)
set_option maxRecDepth 65536 in
set_option maxHeartbeats 40000000 in
theorem rm59 (l Z a0) (hw : oW a0 Z) (ws) (aH : Addr) (pM M : Int32) (mb : Int64) (aS aG : Addr) (hd : Int32) (by_ ls : Int64) (h0 : Heap) (n0 : Nat) (Z0 : n0 ≤ h0.size) (P0 : own_Hi Z h0 aH M mb aS aG hd (0 : Int32) by_ ls) (P1 : n0 ≤ aH) (P2 : 0 ≤ pM.toInt ∧ pM.toInt ≤ 7) :
   own_Met l own_y22 kc15 4 none ws own_r1 #[(.ref aH), (.int pM)] Z h0 (Q59 Z aH pM M mb aS aG hd by_ ls h0 n0) := by
 refine own_bd #[vR aH, vI pM, .unset, .unset] (plainFor_of_name pn_8) fun p e s m below meth c s₁ hx hby hml hrt hlk hZ hown hnm X0 e0 => ?_
 have N0 := Fr.nil n0
 refine o_il X0 hx hby q15_0 ?_
 show oG _ _ _ _ (s₁.setTop (mkF m 1 #[vR aH, vI pM, .unset, .unset] [(.int pM)]))
 obtain ⟨T1, h1, k1, X1, e1, E1, A1, Ex1, O1, st1⟩ := newRE X0 hx hZ hown (own_w hw 76 rfl) (own_w hw 23 rfl) e0 (g := (mkF m 1 #[vR aH, vI pM, .unset, .unset] [(.int pM)])) rfl (hb hby q15_1) rfl (own_cap7 P2).1 (cap := 7) (own_cap7 P2).2 (by decide) (by decide) (by decide) (ad := "[Lcom/example/lockstep/lockstep/session/Event;") (by decide)
 obtain ⟨b1, g1⟩ : ∃ z, z = h0.size := ⟨_, rfl⟩
 rw [← g1] at A1 Ex1 st1
 refine oS st1 ?_
 have ne2 : aH ≠ b1 := Nat.ne_of_lt (Nat.lt_of_lt_of_le (P0.1).lt (Nat.le_of_eq g1.symm))
 have ge3 : n0 ≤ b1 := Nat.le_trans Z0 (Nat.le_of_eq g1.symm)
 have sz4 : h0.size ≤ b1 := Nat.le_trans (Keep.refl h0 [aH]).1 (Nat.le_of_eq g1.symm)
 have f5 := P0.ext E1
 have K6 := (Keep.refl h0 [aH]).ext E1
 have z7 := Nat.le_trans Z0 E1.1
 have V1 : own_RE Z h1 b1 pM own_nulls := own_Rg.new A1 O1 Ex1 (own_cap7 P2).1 (Nat.le_trans (m := 7) (own_cap7 P2).2 (by decide))
 show oG _ _ _ _ (T1.setTop (mkF m 4 #[vR aH, vI pM, .unset, .unset] [(.ref b1)]))
 refine o_as X1 hx hby q15_4 #[vR aH, vI pM, vR b1, .unset] ?_
 refine o_ic X1 hx hby 0 q15_5 ?_
 refine o_is X1 hx hby q15_6 #[vR aH, vI pM, vR b1, vI 0] ?_
 refine o_il X1 hx hby q15_7 ?_
 refine o_al X1 hx hby q15_8 ?_
 refine o_g X1 hx hZ hown hw hby e1 (f5.2.2.2.2.2.2.1) 114 q15_9 fun T8 X8 e8 => ?_
 refine o_cy X8 hx hby q15_12 41 ((flt (by decide)).2.1) ?_
 refine o_al X8 hx hby q15_41 ?_
 refine o_al X8 hx hby q15_42 ?_
 refine o_pF X8 hx hZ hown hby (own_w hw 77 rfl) Via.refl e8 (f5.2.2.2.2.1) (f5.1) (Or.inl (own_w hw 78 rfl)) (own_w hw 27 rfl) ft_8 q15_43 fun T9 h9 X9 e9 W9 => ?_
 have N9 := Fr.snoc X9 N0 P1
 have Fw9 := (f5.2.2.2.2.1).same W9
 have f10 := V1.other W9 (Ne.symm ne2)
 have f11 := (f5.1).wr W9
 have f12 := (f5.2.1).other W9 (Or.inr (sn_48 hw))
 have f13 := (f5.2.2.1).other W9 (Or.inr (sn_49 hw))
 have f14 := (f5.2.2.2.1).other W9 (Or.inr (sn_50 hw))
 have f15 := (f5.2.2.2.2.2.1).other W9 (Or.inr (sn_51 hw))
 have f16 := (f5.2.2.2.2.2.2.1).other W9 (Or.inr (sn_52 hw))
 have f17 := (f5.2.2.2.2.2.2.2.1).other W9 (Or.inr (sn_53 hw))
 have f18 := (f5.2.2.2.2.2.2.2.2).other W9 (Or.inr (sn_54 hw))
 have K19 := K6.wr W9 (ow 0 rfl)
 have z20 := Nat.le_trans z7 (Keep.of_wr W9).1
 refine o_al X9 hx hby q15_46 ?_
 refine o_ic X9 hx hby 0 q15_47 ?_
 refine o_pF X9 hx hZ hown hby (own_w hw 246 rfl) Via.refl e9 f15 f11 (Or.inl (own_w hw 247 rfl)) (own_w hw 27 rfl) ft_1 q15_48 fun T21 h21 X21 e21 W21 => ?_
 have N21 := Fr.snoc X21 N9 P1
 have Fw21 := f15.same W21
 have f22 := f10.other W21 (Ne.symm ne2)
 have f23 := f11.wr W21
 have f24 := f12.other W21 (Or.inr (sn_76 hw))
 have f25 := f13.other W21 (Or.inr (sn_77 hw))
 have f26 := f14.other W21 (Or.inr (sn_78 hw))
 have f27 := f16.other W21 (Or.inr (sn_79 hw))
 have f28 := f17.other W21 (Or.inr (sn_80 hw))
 have f29 := f18.other W21 (Or.inr (sn_81 hw))
 have f30 := Fw9.other W21 (Or.inr (sn_82 hw))
 have K31 := K19.wr W21 (ow 0 rfl)
 have z32 := Nat.le_trans z20 (Keep.of_wr W21).1
 exact o_rv X21 hx hby hrt hlk q15_51 (by rw [e21]; exact ⟨b1, rfl, N21, K31, sz4, ⟨f23, f24, f25, f26, f30, Fw21, f27, f28, f29⟩, f22⟩)
def Q60 (Z : State) (aH : Addr) (M : Int32) (mb : Int64) (aS aG : Addr) (hd : Int32) (by_ ls : Int64) (f : Nat → Value) (aE1 aB1 : Addr) (sq1 : Int64) (n1 : Int32) (aR aL aA : Addr) (g : Nat → Value) (bd hv : Int64) (h0 : Heap) (n0 : Nat) (v : Option Value) (h : Heap) (L : List Loc) : Prop := ∃ fq : Nat → Value, ∃ byq : Int64, ∃ hvq : Int64, ∃ gq : Nat → Value, v = none ∧ Fr n0 L ∧ Keep h0 h [aH, aG, aR, aS, aL, aA] ∧ (own_Hi Z h aH M mb aS aG ((hd + (1 : Int32)) % M) (0 : Int32) byq ls) ∧ (own_RE Z h aG M fq) ∧ (own_Rm Z h aR aS aL aA bd hvq (-1 : Int32) (0 : Int32)) ∧ (own_RO Z h aA (10 : Int32) gq) ∧ (byq.toInt = 0) ∧ (hvq.toInt = 0)
set_option maxRecDepth 65536 in
set_option maxHeartbeats 40000000 in
theorem rm60 (l Z a0) (hw : oW a0 Z) (ws) (aH : Addr) (M : Int32) (mb : Int64) (aS aG : Addr) (hd : Int32) (by_ ls : Int64) (f : Nat → Value) (aE1 aB1 : Addr) (sq1 : Int64) (n1 : Int32) (aR aL aA : Addr) (g : Nat → Value) (bd hv : Int64) (h0 : Heap) (n0 : Nat) (Z0 : n0 ≤ h0.size) (P0 : own_Hi Z h0 aH M mb aS aG hd (1 : Int32) by_ ls) (P1 : own_RE Z h0 aG M f) (P2 : f hd.toNatClampNeg = .ref aE1) (P3 : own_Ev Z h0 aE1 aB1 sq1 n1) (P4 : own_Rm Z h0 aR aS aL aA bd hv (0 : Int32) (1 : Int32)) (P5 : own_RO Z h0 aA (10 : Int32) g) (P6 : g (0 : Int32).toNatClampNeg = .ref aS) (P7 : n0 ≤ aH) (P8 : n0 ≤ aG) (P9 : n0 ≤ aR) (P10 : n0 ≤ aS) (P11 : n0 ≤ aL) (P12 : n0 ≤ aA) (P13 : 0 ≤ M.toInt ∧ M.toInt ≤ 7) (P14 : 0 ≤ hd.toInt ∧ hd.toInt < M.toInt) (P15 : 0 ≤ n1.toInt ∧ n1.toInt ≤ 7) (P16 : by_.toInt = n1.toInt) (P17 : hv.toInt = n1.toInt + 128) :
   own_Met l own_y20 kc28 2 none ws own_r27 #[(.ref aH)] Z h0 (Q60 Z aH M mb aS aG hd by_ ls f aE1 aB1 sq1 n1 aR aL aA g bd hv h0 n0) := by
 refine own_bd #[vR aH, .unset] (plainFor_of_name pn_8) fun p e s m below meth c s₁ hx hby hml hrt hlk hZ hown hnm X0 e0 => ?_
 have N0 := Fr.nil n0
 refine o_al X0 hx hby q28_0 ?_
 refine o_g X0 hx hZ hown hw hby e0 (P0.2.2.2.2.1) 77 q28_1 fun T1 X1 e1 => ?_
 refine o_al X1 hx hby q28_4 ?_
 refine o_g X1 hx hZ hown hw hby e1 (P0.2.2.2.2.2.1) 246 q28_5 fun T2 X2 e2 => ?_
 have : (0 : Int32).toInt = 0 := (by decide)
 refine o_aa (v := (.ref aE1)) X2 hx hZ hby e2 P1 q28_8 ⟨(show ¬ (hd < (0 : Int32)) from mt Int32.lt_iff_toInt_lt.mp (by omega)), (show hd < M from Int32.lt_iff_toInt_lt.mpr (by omega))⟩ P2 ?_
 refine o_cV X2 hx hZ hown hw hml hby (rm49 l Z a0 hw [] aE1 aB1 h0 n0 Z0 (P3.2.2.1)) (P3.1) e2 126 127 129 128 130 8 0 q28_9 [] [] pd_21 hy_8 fun v4 T4 L4 hQ4 X4 => ?_
 obtain ⟨rfl, Nq4, eq4⟩ := hQ4
 have N4 := Fr.app N0 Nq4
 refine oV ?_
 refine o_nB X4 hx hZ hby eq4 (P3.2.2.2) q28_12 ?_
 refine o_is X4 hx hby q28_13 #[vR aH, vI n1] ?_
 refine o_al X4 hx hby q28_14 ?_
 refine o_g X4 hx hZ hown hw hby eq4 (P0.2.2.2.2.1) 77 q28_15 fun T6 X6 e6 => ?_
 refine o_al X6 hx hby q28_18 ?_
 refine o_g X6 hx hZ hown hw hby e6 (P0.2.2.2.2.2.1) 246 q28_19 fun T7 X7 e7 => ?_
 refine o_an X7 hx hby q28_22 ?_
 obtain ⟨cl8, Ar8, Sz8, Nz8, Ov8, -⟩ := P1.opened
 have hin8 := inb_of (j := hd) Sz8 ⟨(show ¬ (hd < (0 : Int32)) from mt Int32.lt_iff_toInt_lt.mp (by omega)), (show hd < M from Int32.lt_iff_toInt_lt.mpr (by omega))⟩
 obtain ⟨T8, h8, X8, e8, W8, st8⟩ := stR X7 hx hZ e7 Ar8 (j := hd) (v := .null) hin8 rfl (Or.inl rfl) (g := (mkF m 23 #[vR aH, vI n1] [.null, (.int hd), (.ref aG)])) rfl rfl (hb hby q28_23)
 refine oS st8 ?_
 have N8 := Fr.snoc X8 N4 P8
 have V8 : own_RE Z h8 aG M (own_updV f hd.toNatClampNeg .null) := P1.set W8 ⟨(show ¬ (hd < (0 : Int32)) from mt Int32.lt_iff_toInt_lt.mp (by omega)), (show hd < M from Int32.lt_iff_toInt_lt.mpr (by omega))⟩ rfl
 have ne9 := own_neE (P0.1) P1.exa (Ne.symm ns_8)
 have f10 := P0.other W8 ne9
 have ne11 := own_neE (P3.1) P1.exa (Ne.symm ns_9)
 have ne12 := own_neE P3.exB P1.exa ns_10
 have f13 := P3.other W8 ne11 ne12
 have ne14 := own_neE P4.exR P1.exa (Ne.symm ns_11)
 have ne15 := own_neE P4.exS P1.exa (Ne.symm ns_12)
 have ne16 := own_neE P4.exL P1.exa (Ne.symm ns_13)
 have f17 := P4.other W8 ne14 ne15 ne16
 have ne18 := own_neE P5.exa P1.exa (Ne.symm ns_14)
 have f19 := P5.other W8 ne18
 have K20 := (Keep.refl h0 [aH, aG, aR, aS, aL, aA]).wr W8 (ow 1 rfl)
 have z21 := Nat.le_trans Z0 (Keep.of_wr W8).1
 show oG _ _ _ _ (T8.setTop (mkF m 24 #[vR aH, vI n1] []))
 refine o_al X8 hx hby q28_24 ?_
 refine o_al X8 hx hby q28_25 ?_
 refine o_g X8 hx hZ hown hw hby e8 (f10.2.2.2.2.2.1) 246 q28_26 fun T22 X22 e22 => ?_
 refine o_ic X22 hx hby 1 q28_29 ?_
 refine o_iadd X22 hx hby q28_30 ?_
 refine o_al X22 hx hby q28_31 ?_
 refine o_g X22 hx hZ hown hw hby e22 (f10.2.2.2.2.1) 77 q28_32 fun T23 X23 e23 => ?_
 refine o_nG X23 hx hZ hby e23 V8 q28_35 ?_
 refine oS (fun _ κ => iremM X23 hx rfl (hb hby q28_36) rfl (show ¬ (M = (0 : Int32)) from mt (congrArg Int32.toInt) (by omega)) κ) ?_
 show oG _ _ _ _ (T23.setTop (mkF m 37 #[vR aH, vI n1] [(.int ((hd + (1 : Int32)) % M)), (.ref aH)]))
 refine o_pF X23 hx hZ hown hby (own_w hw 246 rfl) Via.refl e23 (f10.2.2.2.2.2.1) (f10.1) (Or.inl (own_w hw 247 rfl)) (own_w hw 27 rfl) ft_1 q28_37 fun T25 h25 X25 e25 W25 => ?_
 have N25 := Fr.snoc X25 N8 P7
 have Fw25 := (f10.2.2.2.2.2.1).same W25
 have ne26 := own_neE (f13.1) (f10.1) ns_15
 have ne27 := own_neE f13.exB (f10.1) ns_16
 have f28 := f13.other W25 ne26 ne27
 have ne29 := own_neE f17.exR (f10.1) ns_6
 have ne30 := own_neE f17.exS (f10.1) ns_17
 have ne31 := own_neE f17.exL (f10.1) (Ne.symm ns_7)
 have f32 := f17.other W25 ne29 ne30 ne31
 have ne33 := own_neE f19.exa (f10.1) ns_18
 have f34 := f19.other W25 ne33
 have f35 := V8.other W25 (Ne.symm ne9)
 have f36 := (f10.1).wr W25
 have f37 := (f10.2.1).other W25 (Or.inr (sn_76 hw))
 have f38 := (f10.2.2.1).other W25 (Or.inr (sn_77 hw))
 have f39 := (f10.2.2.2.1).other W25 (Or.inr (sn_78 hw))
 have f40 := (f10.2.2.2.2.1).other W25 (Or.inr (sn_82 hw))
 have f41 := (f10.2.2.2.2.2.2.1).other W25 (Or.inr (sn_79 hw))
 have f42 := (f10.2.2.2.2.2.2.2.1).other W25 (Or.inr (sn_80 hw))
 have f43 := (f10.2.2.2.2.2.2.2.2).other W25 (Or.inr (sn_81 hw))
 have K44 := K20.wr W25 (ow 0 rfl)
 have z45 := Nat.le_trans z21 (Keep.of_wr W25).1
 refine o_al X25 hx hby q28_40 ?_
 refine o_dup X25 hx hby q28_41 ?_
 refine o_g X25 hx hZ hown hw hby e25 f41 114 q28_42 fun T46 X46 e46 => ?_
 refine o_ic X46 hx hby 1 q28_45 ?_
 refine o_isub X46 hx hby q28_46 ?_
 rw [show (((1 : Int32) - (1 : Int32)) : Int32) = (0 : Int32) from by decide]
 refine o_pF X46 hx hZ hown hby (own_w hw 114 rfl) Via.refl e46 f41 f36 (Or.inl (own_w hw 115 rfl)) (own_w hw 27 rfl) ft_1 q28_47 fun T47 h47 X47 e47 W47 => ?_
 have N47 := Fr.snoc X47 N25 P7
 have Fw47 := f41.same W47
 have f48 := f28.other W47 ne26 ne27
 have f49 := f32.other W47 ne29 ne30 ne31
 have f50 := f34.other W47 ne33
 have f51 := f35.other W47 (Ne.symm ne9)
 have f52 := f36.wr W47
 have f53 := f37.other W47 (Or.inr (sn_83 hw))
 have f54 := f38.other W47 (Or.inr (sn_84 hw))
 have f55 := f39.other W47 (Or.inr (sn_85 hw))
 have f56 := f40.other W47 (Or.inr (sn_86 hw))
 have f57 := f42.other W47 (Or.inr (sn_87 hw))
 have f58 := f43.other W47 (Or.inr (sn_88 hw))
 have f59 := Fw25.other W47 (Or.inr (sn_89 hw))
 have K60 := K44.wr W47 (ow 0 rfl)
 have z61 := Nat.le_trans z45 (Keep.of_wr W47).1
 refine o_al X47 hx hby q28_50 ?_
 refine o_dup X47 hx hby q28_51 ?_
 refine o_g X47 hx hZ hown hw hby e47 f57 248 q28_52 fun T62 X62 e62 => ?_
 refine o_il X62 hx hby q28_55 ?_
 refine o_i2l X62 hx hby q28_56 ?_
 refine o_lsub X62 hx hby q28_57 ?_
 refine o_pF X62 hx hZ hown hby (own_w hw 248 rfl) Via.refl e62 f57 f52 (Or.inl (own_w hw 249 rfl)) (own_w hw 27 rfl) ft_2 q28_58 fun T63 h63 X63 e63 W63 => ?_
 have N63 := Fr.snoc X63 N47 P7
 have Fw63 := f57.same W63
 have f64 := f48.other W63 ne26 ne27
 have f65 := f49.other W63 ne29 ne30 ne31
 have f66 := f50.other W63 ne33
 have f67 := f51.other W63 (Ne.symm ne9)
 have f68 := f52.wr W63
 have f69 := f53.other W63 (Or.inr (sn_90 hw))
 have f70 := f54.other W63 (Or.inr (sn_91 hw))
 have f71 := f55.other W63 (Or.inr (sn_92 hw))
 have f72 := f56.other W63 (Or.inr (sn_93 hw))
 have f73 := f58.other W63 (Or.inr (sn_94 hw))
 have f74 := f59.other W63 (Or.inr (sn_95 hw))
 have f75 := Fw47.other W63 (Or.inr (sn_96 hw))
 have K76 := K60.wr W63 (ow 0 rfl)
 have z77 := Nat.le_trans z61 (Keep.of_wr W63).1
 refine o_al X63 hx hby q28_61 ?_
 refine o_g X63 hx hZ hown hw hby e63 f71 105 q28_62 fun T78 X78 e78 => ?_
 refine o_il X78 hx hby q28_65 ?_
 refine o_cS X78 hx hZ hown hw hml hby (rm56 l Z a0 hw [] n1  h63 n0 z77 ) e78 131 132 28 133 1 q28_66 [(.int n1)] [(.ref aS)] pd_22 hy_9 fun v79 T79 L79 hQ79 X79 => ?_
 obtain ⟨rfl, Nq79, eq79⟩ := hQ79
 have N79 := Fr.app N63 Nq79
 refine oV ?_
 have : (0 : Int64).toInt = 0 := (by decide)
 have := c_i2l n1
 have : (128 : Int64).toInt = 128 := (by decide)
 have := And.intro (c_ladd (n1).toInt64 (128 : Int64)) (rng64 ((n1).toInt64 + (128 : Int64)))
 have := And.intro (c_lsub hv ((n1).toInt64 + (128 : Int64))) (rng64 (hv - ((n1).toInt64 + (128 : Int64))))
 refine o_cV X79 hx hZ hown hw hml hby (rm47 l Z a0 hw [] aS ((n1.toInt64) + (128 : Int64)) aR aL bd hv aA g h63 n0 z77 f65 f66 P6 (show ¬ (0 : Int64) < (hv - ((n1.toInt64) + (128 : Int64))) from mt Int64.lt_iff_toInt_lt.mp (by omega)) P9 P10 P11 P12) f65.exS eq79 267 268 270 269 271 94 0 q28_69 [(.long ((n1.toInt64) + (128 : Int64)))] [] pd_23 hy_10 fun v80 T80 L80 hQ80 X80 => ?_
 obtain ⟨gq81, rfl, Nq80, Kq80, p80_0, p80_1⟩ := hQ80
 have N80 := Fr.app N79 Nq80
 have wx82 : own_exs Z _ [aR, aS, aL, aA] ocl_4 := ⟨f65.exR, f65.exS, f65.exL, f66.exa, trivial⟩
 have ni83 := own_nin (f64.1) wx82 nc_6
 have ni84 := own_nin f64.exB wx82 nc_7
 have f85 := f64.keep Kq80 ni83 ni84
 have ni86 := own_nin f67.exa wx82 nc_8
 have f87 := f67.keep Kq80 ni86
 have f88 := f68.keep Kq80
 have ni89 := own_nin f68 wx82 nc_9
 have f90 := f69.keep Kq80 ni89
 have f91 := f70.keep Kq80 ni89
 have f92 := f71.keep Kq80 ni89
 have f93 := f72.keep Kq80 ni89
 have f94 := f73.keep Kq80 ni89
 have f95 := f74.keep Kq80 ni89
 have f96 := f75.keep Kq80 ni89
 have f97 := Fw63.keep Kq80 ni89
 have K98 := K76.trans Kq80 (allS (ow 2 rfl) (allS (ow 3 rfl) (allS (ow 4 rfl) (allS (ow 5 rfl) all0))))
 have z99 := Nat.le_trans z77 Kq80.1
 refine oN ?_
 refine o_al X80 hx hby q28_72 ?_
 refine o_g X80 hx hZ hown hw hby rfl f93 77 q28_73 fun T100 X100 e100 => ?_
 refine o_nG X100 hx hZ hby e100 f87 q28_76 ?_
 refine o_bp X100 hx hby 16 q28_77 ?_
 have : (16 : Int32).toInt = 16 := (by decide)
 refine o_cy X100 hx hby q28_79 107 ((flt (show ¬ ((16 : Int32) < M) from mt Int32.lt_iff_toInt_lt.mp (by omega))).2.2.2) ?_
 have := And.intro (c_lsub by_ (n1).toInt64) (rng64 (by_ - (n1).toInt64))
 exact o_rv X100 hx hby hrt hlk q28_107 (by rw [e100]; exact ⟨(own_updV f hd.toNatClampNeg .null), (by_ - (n1.toInt64)), (hv - ((n1.toInt64) + (128 : Int64))), gq81, rfl, N80, K98, ⟨f88, f90, f91, f92, f93, f95, f96, f97, f94⟩, f87, p80_0, p80_1, (show (by_ - (n1.toInt64)).toInt = 0 from by omega), (show (hv - ((n1.toInt64) + (128 : Int64))).toInt = 0 from by omega)⟩)
def Q61 (Z : State) (aH : Addr) (M : Int32) (mb : Int64) (aS aG : Addr) (hd : Int32) (by_ ls : Int64) (f : Nat → Value) (aE1 aB1 : Addr) (sq1 : Int64) (n1 : Int32) (aE2 : Addr) (n2 : Int32) (aR aL aA : Addr) (g : Nat → Value) (bd hv : Int64) (h0 : Heap) (n0 : Nat) (v : Option Value) (h : Heap) (L : List Loc) : Prop := ∃ fq : Nat → Value, ∃ byq : Int64, ∃ hvq : Int64, ∃ gq : Nat → Value, v = none ∧ Fr n0 L ∧ Keep h0 h [aH, aG, aR, aS, aL, aA] ∧ (own_Hi Z h aH M mb aS aG ((hd + (1 : Int32)) % M) (1 : Int32) byq ls) ∧ (own_RE Z h aG M fq) ∧ (fq ((hd + (1 : Int32)) % M).toNatClampNeg = .ref aE2) ∧ (own_Rm Z h aR aS aL aA bd hvq (0 : Int32) (1 : Int32)) ∧ (own_RO Z h aA (10 : Int32) gq) ∧ (gq (0 : Int32).toNatClampNeg = .ref aS) ∧ (byq.toInt = n2.toInt) ∧ (hvq.toInt = n2.toInt + 128)
set_option maxRecDepth 65536 in
set_option maxHeartbeats 40000000 in
theorem rm61 (l Z a0) (hw : oW a0 Z) (ws) (aH : Addr) (M : Int32) (mb : Int64) (aS aG : Addr) (hd : Int32) (by_ ls : Int64) (f : Nat → Value) (aE1 aB1 : Addr) (sq1 : Int64) (n1 : Int32) (aE2 : Addr) (n2 : Int32) (aR aL aA : Addr) (g : Nat → Value) (bd hv : Int64) (h0 : Heap) (n0 : Nat) (Z0 : n0 ≤ h0.size) (P0 : own_Hi Z h0 aH M mb aS aG hd (2 : Int32) by_ ls) (P1 : own_RE Z h0 aG M f) (P2 : f hd.toNatClampNeg = .ref aE1) (P3 : own_Ev Z h0 aE1 aB1 sq1 n1) (P4 : f ((hd + (1 : Int32)) % M).toNatClampNeg = .ref aE2) (P5 : own_Rm Z h0 aR aS aL aA bd hv (0 : Int32) (1 : Int32)) (P6 : own_RO Z h0 aA (10 : Int32) g) (P7 : g (0 : Int32).toNatClampNeg = .ref aS) (P8 : n0 ≤ aH) (P9 : n0 ≤ aG) (P10 : n0 ≤ aR) (P11 : n0 ≤ aS) (P12 : n0 ≤ aL) (P13 : n0 ≤ aA) (P14 : 0 ≤ M.toInt ∧ M.toInt ≤ 7) (P15 : 0 ≤ hd.toInt ∧ hd.toInt < M.toInt) (P16 : 0 ≤ n1.toInt ∧ n1.toInt ≤ 7) (P17 : 0 ≤ n2.toInt ∧ n2.toInt ≤ 7) (P18 : 2 ≤ M.toInt) (P19 : by_.toInt = n1.toInt + n2.toInt) (P20 : hv.toInt = n1.toInt + n2.toInt + 256) :
   own_Met l own_y20 kc28 2 none ws own_r33 #[(.ref aH)] Z h0 (Q61 Z aH M mb aS aG hd by_ ls f aE1 aB1 sq1 n1 aE2 n2 aR aL aA g bd hv h0 n0) := by
 refine own_bd #[vR aH, .unset] (plainFor_of_name pn_8) fun p e s m below meth c s₁ hx hby hml hrt hlk hZ hown hnm X0 e0 => ?_
 have N0 := Fr.nil n0
 refine o_al X0 hx hby q28_0 ?_
 refine o_g X0 hx hZ hown hw hby e0 (P0.2.2.2.2.1) 77 q28_1 fun T1 X1 e1 => ?_
 refine o_al X1 hx hby q28_4 ?_
 refine o_g X1 hx hZ hown hw hby e1 (P0.2.2.2.2.2.1) 246 q28_5 fun T2 X2 e2 => ?_
 have : (0 : Int32).toInt = 0 := (by decide)
 refine o_aa (v := (.ref aE1)) X2 hx hZ hby e2 P1 q28_8 ⟨(show ¬ (hd < (0 : Int32)) from mt Int32.lt_iff_toInt_lt.mp (by omega)), (show hd < M from Int32.lt_iff_toInt_lt.mpr (by omega))⟩ P2 ?_
 refine o_cV X2 hx hZ hown hw hml hby (rm49 l Z a0 hw [] aE1 aB1 h0 n0 Z0 (P3.2.2.1)) (P3.1) e2 126 127 129 128 130 8 0 q28_9 [] [] pd_21 hy_8 fun v4 T4 L4 hQ4 X4 => ?_
 obtain ⟨rfl, Nq4, eq4⟩ := hQ4
 have N4 := Fr.app N0 Nq4
 refine oV ?_
 refine o_nB X4 hx hZ hby eq4 (P3.2.2.2) q28_12 ?_
 refine o_is X4 hx hby q28_13 #[vR aH, vI n1] ?_
 refine o_al X4 hx hby q28_14 ?_
 refine o_g X4 hx hZ hown hw hby eq4 (P0.2.2.2.2.1) 77 q28_15 fun T6 X6 e6 => ?_
 refine o_al X6 hx hby q28_18 ?_
 refine o_g X6 hx hZ hown hw hby e6 (P0.2.2.2.2.2.1) 246 q28_19 fun T7 X7 e7 => ?_
 refine o_an X7 hx hby q28_22 ?_
 obtain ⟨cl8, Ar8, Sz8, Nz8, Ov8, -⟩ := P1.opened
 have hin8 := inb_of (j := hd) Sz8 ⟨(show ¬ (hd < (0 : Int32)) from mt Int32.lt_iff_toInt_lt.mp (by omega)), (show hd < M from Int32.lt_iff_toInt_lt.mpr (by omega))⟩
 obtain ⟨T8, h8, X8, e8, W8, st8⟩ := stR X7 hx hZ e7 Ar8 (j := hd) (v := .null) hin8 rfl (Or.inl rfl) (g := (mkF m 23 #[vR aH, vI n1] [.null, (.int hd), (.ref aG)])) rfl rfl (hb hby q28_23)
 refine oS st8 ?_
 have N8 := Fr.snoc X8 N4 P9
 have V8 : own_RE Z h8 aG M (own_updV f hd.toNatClampNeg .null) := P1.set W8 ⟨(show ¬ (hd < (0 : Int32)) from mt Int32.lt_iff_toInt_lt.mp (by omega)), (show hd < M from Int32.lt_iff_toInt_lt.mpr (by omega))⟩ rfl
 have ne9 := own_neE (P0.1) P1.exa (Ne.symm ns_8)
 have f10 := P0.other W8 ne9
 have ne11 := own_neE (P3.1) P1.exa (Ne.symm ns_9)
 have ne12 := own_neE P3.exB P1.exa ns_10
 have f13 := P3.other W8 ne11 ne12
 have ne14 := own_neE P5.exR P1.exa (Ne.symm ns_11)
 have ne15 := own_neE P5.exS P1.exa (Ne.symm ns_12)
 have ne16 := own_neE P5.exL P1.exa (Ne.symm ns_13)
 have f17 := P5.other W8 ne14 ne15 ne16
 have ne18 := own_neE P6.exa P1.exa (Ne.symm ns_14)
 have f19 := P6.other W8 ne18
 have K20 := (Keep.refl h0 [aH, aG, aR, aS, aL, aA]).wr W8 (ow 1 rfl)
 have z21 := Nat.le_trans Z0 (Keep.of_wr W8).1
 show oG _ _ _ _ (T8.setTop (mkF m 24 #[vR aH, vI n1] []))
 refine o_al X8 hx hby q28_24 ?_
 refine o_al X8 hx hby q28_25 ?_
 refine o_g X8 hx hZ hown hw hby e8 (f10.2.2.2.2.2.1) 246 q28_26 fun T22 X22 e22 => ?_
 refine o_ic X22 hx hby 1 q28_29 ?_
 refine o_iadd X22 hx hby q28_30 ?_
 refine o_al X22 hx hby q28_31 ?_
 refine o_g X22 hx hZ hown hw hby e22 (f10.2.2.2.2.1) 77 q28_32 fun T23 X23 e23 => ?_
 refine o_nG X23 hx hZ hby e23 V8 q28_35 ?_
 refine oS (fun _ κ => iremM X23 hx rfl (hb hby q28_36) rfl (show ¬ (M = (0 : Int32)) from mt (congrArg Int32.toInt) (by omega)) κ) ?_
 show oG _ _ _ _ (T23.setTop (mkF m 37 #[vR aH, vI n1] [(.int ((hd + (1 : Int32)) % M)), (.ref aH)]))
 refine o_pF X23 hx hZ hown hby (own_w hw 246 rfl) Via.refl e23 (f10.2.2.2.2.2.1) (f10.1) (Or.inl (own_w hw 247 rfl)) (own_w hw 27 rfl) ft_1 q28_37 fun T25 h25 X25 e25 W25 => ?_
 have N25 := Fr.snoc X25 N8 P8
 have Fw25 := (f10.2.2.2.2.2.1).same W25
 have ne26 := own_neE (f13.1) (f10.1) ns_15
 have ne27 := own_neE f13.exB (f10.1) ns_16
 have f28 := f13.other W25 ne26 ne27
 have ne29 := own_neE f17.exR (f10.1) ns_6
 have ne30 := own_neE f17.exS (f10.1) ns_17
 have ne31 := own_neE f17.exL (f10.1) (Ne.symm ns_7)
 have f32 := f17.other W25 ne29 ne30 ne31
 have ne33 := own_neE f19.exa (f10.1) ns_18
 have f34 := f19.other W25 ne33
 have f35 := V8.other W25 (Ne.symm ne9)
 have f36 := (f10.1).wr W25
 have f37 := (f10.2.1).other W25 (Or.inr (sn_76 hw))
 have f38 := (f10.2.2.1).other W25 (Or.inr (sn_77 hw))
 have f39 := (f10.2.2.2.1).other W25 (Or.inr (sn_78 hw))
 have f40 := (f10.2.2.2.2.1).other W25 (Or.inr (sn_82 hw))
 have f41 := (f10.2.2.2.2.2.2.1).other W25 (Or.inr (sn_79 hw))
 have f42 := (f10.2.2.2.2.2.2.2.1).other W25 (Or.inr (sn_80 hw))
 have f43 := (f10.2.2.2.2.2.2.2.2).other W25 (Or.inr (sn_81 hw))
 have K44 := K20.wr W25 (ow 0 rfl)
 have z45 := Nat.le_trans z21 (Keep.of_wr W25).1
 refine o_al X25 hx hby q28_40 ?_
 refine o_dup X25 hx hby q28_41 ?_
 refine o_g X25 hx hZ hown hw hby e25 f41 114 q28_42 fun T46 X46 e46 => ?_
 refine o_ic X46 hx hby 1 q28_45 ?_
 refine o_isub X46 hx hby q28_46 ?_
 rw [show (((2 : Int32) - (1 : Int32)) : Int32) = (1 : Int32) from by decide]
 refine o_pF X46 hx hZ hown hby (own_w hw 114 rfl) Via.refl e46 f41 f36 (Or.inl (own_w hw 115 rfl)) (own_w hw 27 rfl) ft_1 q28_47 fun T47 h47 X47 e47 W47 => ?_
 have N47 := Fr.snoc X47 N25 P8
 have Fw47 := f41.same W47
 have f48 := f28.other W47 ne26 ne27
 have f49 := f32.other W47 ne29 ne30 ne31
 have f50 := f34.other W47 ne33
 have f51 := f35.other W47 (Ne.symm ne9)
 have f52 := f36.wr W47
 have f53 := f37.other W47 (Or.inr (sn_83 hw))
 have f54 := f38.other W47 (Or.inr (sn_84 hw))
 have f55 := f39.other W47 (Or.inr (sn_85 hw))
 have f56 := f40.other W47 (Or.inr (sn_86 hw))
 have f57 := f42.other W47 (Or.inr (sn_87 hw))
 have f58 := f43.other W47 (Or.inr (sn_88 hw))
 have f59 := Fw25.other W47 (Or.inr (sn_89 hw))
 have K60 := K44.wr W47 (ow 0 rfl)
 have z61 := Nat.le_trans z45 (Keep.of_wr W47).1
 refine o_al X47 hx hby q28_50 ?_
 refine o_dup X47 hx hby q28_51 ?_
 refine o_g X47 hx hZ hown hw hby e47 f57 248 q28_52 fun T62 X62 e62 => ?_
 refine o_il X62 hx hby q28_55 ?_
 refine o_i2l X62 hx hby q28_56 ?_
 refine o_lsub X62 hx hby q28_57 ?_
 refine o_pF X62 hx hZ hown hby (own_w hw 248 rfl) Via.refl e62 f57 f52 (Or.inl (own_w hw 249 rfl)) (own_w hw 27 rfl) ft_2 q28_58 fun T63 h63 X63 e63 W63 => ?_
 have N63 := Fr.snoc X63 N47 P8
 have Fw63 := f57.same W63
 have f64 := f48.other W63 ne26 ne27
 have f65 := f49.other W63 ne29 ne30 ne31
 have f66 := f50.other W63 ne33
 have f67 := f51.other W63 (Ne.symm ne9)
 have f68 := f52.wr W63
 have f69 := f53.other W63 (Or.inr (sn_90 hw))
 have f70 := f54.other W63 (Or.inr (sn_91 hw))
 have f71 := f55.other W63 (Or.inr (sn_92 hw))
 have f72 := f56.other W63 (Or.inr (sn_93 hw))
 have f73 := f58.other W63 (Or.inr (sn_94 hw))
 have f74 := f59.other W63 (Or.inr (sn_95 hw))
 have f75 := Fw47.other W63 (Or.inr (sn_96 hw))
 have K76 := K60.wr W63 (ow 0 rfl)
 have z77 := Nat.le_trans z61 (Keep.of_wr W63).1
 refine o_al X63 hx hby q28_61 ?_
 refine o_g X63 hx hZ hown hw hby e63 f71 105 q28_62 fun T78 X78 e78 => ?_
 refine o_il X78 hx hby q28_65 ?_
 refine o_cS X78 hx hZ hown hw hml hby (rm56 l Z a0 hw [] n1  h63 n0 z77 ) e78 131 132 28 133 1 q28_66 [(.int n1)] [(.ref aS)] pd_22 hy_9 fun v79 T79 L79 hQ79 X79 => ?_
 obtain ⟨rfl, Nq79, eq79⟩ := hQ79
 have N79 := Fr.app N63 Nq79
 refine oV ?_
 have : (0 : Int64).toInt = 0 := (by decide)
 have := c_i2l n1
 have : (128 : Int64).toInt = 128 := (by decide)
 have := And.intro (c_ladd (n1).toInt64 (128 : Int64)) (rng64 ((n1).toInt64 + (128 : Int64)))
 have := And.intro (c_lsub hv ((n1).toInt64 + (128 : Int64))) (rng64 (hv - ((n1).toInt64 + (128 : Int64))))
 refine o_cV X79 hx hZ hown hw hml hby (rm46 l Z a0 hw [] aS ((n1.toInt64) + (128 : Int64)) aR aL bd hv aA g h63 n0 z77 f65 f66 P7 (show (0 : Int64) < (hv - ((n1.toInt64) + (128 : Int64))) from Int64.lt_iff_toInt_lt.mpr (by omega)) P10 P11 P12 P13) f65.exS eq79 267 268 270 269 271 94 0 q28_69 [(.long ((n1.toInt64) + (128 : Int64)))] [] pd_23 hy_10 fun v80 T80 L80 hQ80 X80 => ?_
 obtain ⟨gq81, rfl, Nq80, Kq80, p80_0, p80_1, p80_2⟩ := hQ80
 have N80 := Fr.app N79 Nq80
 have wx82 : own_exs Z _ [aR, aS, aL, aA] ocl_4 := ⟨f65.exR, f65.exS, f65.exL, f66.exa, trivial⟩
 have ni83 := own_nin (f64.1) wx82 nc_6
 have ni84 := own_nin f64.exB wx82 nc_7
 have f85 := f64.keep Kq80 ni83 ni84
 have ni86 := own_nin f67.exa wx82 nc_8
 have f87 := f67.keep Kq80 ni86
 have f88 := f68.keep Kq80
 have ni89 := own_nin f68 wx82 nc_9
 have f90 := f69.keep Kq80 ni89
 have f91 := f70.keep Kq80 ni89
 have f92 := f71.keep Kq80 ni89
 have f93 := f72.keep Kq80 ni89
 have f94 := f73.keep Kq80 ni89
 have f95 := f74.keep Kq80 ni89
 have f96 := f75.keep Kq80 ni89
 have f97 := Fw63.keep Kq80 ni89
 have K98 := K76.trans Kq80 (allS (ow 2 rfl) (allS (ow 3 rfl) (allS (ow 4 rfl) (allS (ow 5 rfl) all0))))
 have z99 := Nat.le_trans z77 Kq80.1
 refine oN ?_
 refine o_al X80 hx hby q28_72 ?_
 refine o_g X80 hx hZ hown hw hby rfl f93 77 q28_73 fun T100 X100 e100 => ?_
 refine o_nG X100 hx hZ hby e100 f87 q28_76 ?_
 refine o_bp X100 hx hby 16 q28_77 ?_
 have : (16 : Int32).toInt = 16 := (by decide)
 refine o_cy X100 hx hby q28_79 107 ((flt (show ¬ ((16 : Int32) < M) from mt Int32.lt_iff_toInt_lt.mp (by omega))).2.2.2) ?_
 have : (1 : Int32).toInt = 1 := (by decide)
 have := And.intro (c_iadd hd (1 : Int32)) (rng32 (hd + (1 : Int32)))
 have := c_iremV (hd + (1 : Int32)) M
 have := And.intro (c_lsub by_ (n1).toInt64) (rng64 (by_ - (n1).toInt64))
 exact o_rv X100 hx hby hrt hlk q28_107 (by rw [e100]; exact ⟨(own_updV f hd.toNatClampNeg .null), (by_ - (n1.toInt64)), (hv - ((n1.toInt64) + (128 : Int64))), gq81, rfl, N80, K98, ⟨f88, f90, f91, f92, f93, f95, f96, f97, f94⟩, f87, ((if_neg (own_nep (show 0 ≤ ((hd + (1 : Int32)) % M).toInt from by omega) (show 0 ≤ hd.toInt from by omega) (show ¬ (((hd + (1 : Int32)) % M).toInt = hd.toInt) from by omega))).trans P4), p80_0, p80_1, p80_2, (show (by_ - (n1.toInt64)).toInt = n2.toInt from by omega), (show (hv - ((n1.toInt64) + (128 : Int64))).toInt = n2.toInt + 128 from by omega)⟩)
set_option maxRecDepth 65536 in
set_option maxHeartbeats 40000000 in
theorem sg62 (l Z a0) (hw : oW a0 Z) (aH aE : Addr) (M : Int32) (mb : Int64) (aS aG : Addr) (by_ ls : Int64) (f : Nat → Value) (aB : Addr) (sq : Int64) (n : Int32) (aR aL : Addr) (bd hv : Int64) (aD : Addr) (kD : ClassId) (h0 : Heap) (n0 : Nat) (Z0 : n0 ≤ h0.size) (P0 : own_Hi Z h0 aH M mb aS aG (0 : Int32) (0 : Int32) by_ ls) (P1 : own_RE Z h0 aG (0 : Int32) f) (P2 : own_Ev Z h0 aE aB sq n) (P3 : own_Rm Z h0 aR aS aL aD bd hv (-1 : Int32) (0 : Int32)) (P4 : Old Z n0 h0) (P5 : Sta Z Z.heap "java/util/ArrayList" "DEFAULTCAPACITY_EMPTY_ELEMENTDATA" "[Ljava/lang/Object;" (.ref aD)) (P6 : Arv Z Z.heap aD kD (.object "java/lang/Object") (0 : Int32) [] .null) (P7 : n0 ≤ aH) (P8 : n0 ≤ aG) (P9 : n0 ≤ aR) (P10 : n0 ≤ aS) (P11 : n0 ≤ aL) (P12 : 0 ≤ M.toInt ∧ M.toInt ≤ 7) (P13 : 0 ≤ n.toInt ∧ n.toInt ≤ 7) (P14 : 0 ≤ mb.toInt) (P15 : by_.toInt = 0) (P16 : hv.toInt = 0) (P17 : 1 ≤ M.toInt) (P18 : n.toInt ≤ mb.toInt) (P19 : bd.toInt < n.toInt + 128)
   (hx : p.tables.exec = Jvm.exec) (hby : c.code = kc16) (hml : c.maxLocals = 4) (hZ : Z.Warmed39 s.vm) (hown : s.vm.findClass "com/example/lockstep/lockstep/session/History" = some m.cls)
   (X0 : Stand p l e own_r7 s m #[(.ref aH), (.ref aE)] below meth c s₁ locs 0 0) (e0 : s₁.heap = h0) (N0 : Fr n0 locs)
   (κ₀ : ∀ (T' : State) (L' : List Loc) , Stand p l e own_r7 s m #[(.ref aH), (.ref aE)] below meth c T' L' 2 17 → Fr n0 L' → Keep h0 T'.heap [aH] → (own_Hi Z T'.heap aH M mb aS aG (0 : Int32) (0 : Int32) by_ sq) → oG p e below F₀ (T'.setTop (mkF m 210 #[vR aH, vR aE, vI n, vI 0] []))) :
   oG p e below F₀ (s₁.setTop (mkF m 73 #[vR aH, vR aE, vI n, vI 1] [])) := by
 refine o_il X0 hx hby q16_73 ?_
 refine o_in X0 hx hby q16_74 ((if0 _ _).trans (feq (by decide)).1) ?_
 refine o_al X0 hx hby q16_77 ?_
 refine o_g X0 hx hZ hown hw hby e0 (P0.2.2.2.1) 105 q16_78 fun T1 X1 e1 => ?_
 refine o_il X1 hx hby q16_81 ?_
 refine o_cS X1 hx hZ hown hw hml hby (rm56 l Z a0 hw [] n  h0 n0 Z0 ) e1 131 132 28 133 1 q16_82 [(.int n)] [(.ref aS)] pd_22 hy_9 fun v2 T2 L2 hQ2 X2 => ?_
 obtain ⟨rfl, Nq2, eq2⟩ := hQ2
 have N2 := Fr.app N0 Nq2
 refine oV ?_
 have := c_i2l n
 have : (128 : Int64).toInt = 128 := (by decide)
 have := And.intro (c_ladd (n).toInt64 (128 : Int64)) (rng64 ((n).toInt64 + (128 : Int64)))
 have := And.intro (c_ladd hv ((n).toInt64 + (128 : Int64))) (rng64 (hv + ((n).toInt64 + (128 : Int64))))
 refine o_cV X2 hx hZ hown hw hml hby (rm43 l Z a0 hw [] aS ((n.toInt64) + (128 : Int64)) aR aL bd hv aD kD h0 n0 Z0 P3 P4 P5 P6 (show bd < (hv + ((n.toInt64) + (128 : Int64))) from Int64.lt_iff_toInt_lt.mpr (by omega))) P3.exS eq2 135 136 138 137 139 94 0 q16_85 [(.long ((n.toInt64) + (128 : Int64)))] [] pd_24 hy_10 fun v3 T3 L3 hQ3 X3 => ?_
 obtain ⟨rfl, Nq3, eq3⟩ := hQ3
 have N3 := Fr.app N2 Nq3
 refine oV ?_
 refine o_in X3 hx hby q16_88 ((if0 _ _).trans (teq rfl).2) ?_
 refine o_al X3 hx hby q16_91 ?_
 refine o_g X3 hx hZ hown hw hby eq3 (P0.2.2.2.2.2.2.1) 114 q16_92 fun T4 X4 e4 => ?_
 refine o_iy X4 hx hby q16_95 102 ((if0 _ _).trans (flt (by decide)).2.2.2) ?_
 refine o_ic X4 hx hby 0 q16_102 ?_
 refine o_is X4 hx hby q16_103 #[vR aH, vR aE, vI n, vI 0] ?_
 refine o_il X4 hx hby q16_104 ?_
 refine o_iy X4 hx hby q16_105 73 ((if0 _ _).trans (teq rfl).1) ?_
 refine o_il X4 hx hby q16_73 ?_
 refine o_iy X4 hx hby q16_74 115 ((if0 _ _).trans (teq rfl).1) ?_
 refine o_il X4 hx hby q16_115 ?_
 refine o_iy X4 hx hby q16_116 202 ((if0 _ _).trans (teq rfl).1) ?_
 refine o_al X4 hx hby q16_202 ?_
 refine o_al X4 hx hby q16_203 ?_
 refine o_cV X4 hx hZ hown hw hml hby (rm50 l Z a0 hw [] aE sq h0 n0 Z0 (P2.2.1)) (P2.1) e4 250 251 253 252 254 8 1 q16_204 [] [(.ref aH)] pd_25 hy_8 fun v5 T5 L5 hQ5 X5 => ?_
 obtain ⟨rfl, Nq5, eq5⟩ := hQ5
 have N5 := Fr.app N3 Nq5
 refine oV ?_
 refine o_pF X5 hx hZ hown hby (own_w hw 112 rfl) Via.refl eq5 (P0.2.2.2.2.2.2.2.2) (P0.1) (Or.inl (own_w hw 113 rfl)) (own_w hw 27 rfl) ft_2 q16_207 fun T6 h6 X6 e6 W6 => ?_
 have N6 := Fr.snoc X6 N5 P7
 have Fw6 := (P0.2.2.2.2.2.2.2.2).same W6
 have ne7 := own_neE P1.exa (P0.1) ns_8
 have f8 := P1.other W6 ne7
 have ne9 := own_neE (P2.1) (P0.1) ns_15
 have ne10 := own_neE P2.exB (P0.1) ns_16
 have f11 := P2.other W6 ne9 ne10
 have ne12 := own_neE P3.exR (P0.1) ns_6
 have ne13 := own_neE P3.exS (P0.1) ns_17
 have ne14 := own_neE P3.exL (P0.1) (Ne.symm ns_7)
 have f15 := P3.other W6 ne12 ne13 ne14
 have f16 := P4.wr W6 P7
 have f17 := (P0.1).wr W6
 have f18 := (P0.2.1).other W6 (Or.inr (sn_97 hw))
 have f19 := (P0.2.2.1).other W6 (Or.inr (sn_98 hw))
 have f20 := (P0.2.2.2.1).other W6 (Or.inr (sn_99 hw))
 have f21 := (P0.2.2.2.2.1).other W6 (Or.inr (sn_100 hw))
 have f22 := (P0.2.2.2.2.2.1).other W6 (Or.inr (sn_101 hw))
 have f23 := (P0.2.2.2.2.2.2.1).other W6 (Or.inr (sn_102 hw))
 have f24 := (P0.2.2.2.2.2.2.2.1).other W6 (Or.inr (sn_103 hw))
 have K25 := (Keep.refl h0 [aH]).wr W6 (ow 0 rfl)
 have z26 := Nat.le_trans Z0 (Keep.of_wr W6).1
 exact κ₀ _ _  (X6.more (by decide) (by decide)) N6 (by rw [e6]; exact K25) (by rw [e6]; exact ⟨f17, f18, f19, f20, f21, f22, f23, f24, Fw6⟩)
set_option maxRecDepth 65536 in
set_option maxHeartbeats 40000000 in
theorem sg63 (l Z a0) (hw : oW a0 Z) (aH aE : Addr) (M : Int32) (mb : Int64) (aS aG : Addr) (by_ ls : Int64) (f : Nat → Value) (aB : Addr) (sq : Int64) (n : Int32) (aR aL : Addr) (bd hv : Int64) (aD : Addr) (kD : ClassId) (h0 : Heap) (n0 : Nat) (Z0 : n0 ≤ h0.size) (P0 : own_Hi Z h0 aH M mb aS aG (0 : Int32) (0 : Int32) by_ ls) (P1 : own_RE Z h0 aG (0 : Int32) f) (P2 : own_Ev Z h0 aE aB sq n) (P3 : own_Rm Z h0 aR aS aL aD bd hv (-1 : Int32) (0 : Int32)) (P4 : Old Z n0 h0) (P5 : Sta Z Z.heap "java/util/ArrayList" "DEFAULTCAPACITY_EMPTY_ELEMENTDATA" "[Ljava/lang/Object;" (.ref aD)) (P6 : Arv Z Z.heap aD kD (.object "java/lang/Object") (0 : Int32) [] .null) (P7 : n0 ≤ aH) (P8 : n0 ≤ aG) (P9 : n0 ≤ aR) (P10 : n0 ≤ aS) (P11 : n0 ≤ aL) (P12 : 0 ≤ M.toInt ∧ M.toInt ≤ 7) (P13 : 0 ≤ n.toInt ∧ n.toInt ≤ 7) (P14 : 0 ≤ mb.toInt) (P15 : by_.toInt = 0) (P16 : hv.toInt = 0) (P17 : 1 ≤ M.toInt) (P18 : n.toInt ≤ mb.toInt) (P19 : n.toInt + 128 ≤ bd.toInt)
   (hx : p.tables.exec = Jvm.exec) (hby : c.code = kc16) (hml : c.maxLocals = 4) (hZ : Z.Warmed39 s.vm) (hown : s.vm.findClass "com/example/lockstep/lockstep/session/History" = some m.cls)
   (X0 : Stand p l e own_r7 s m #[(.ref aH), (.ref aE)] below meth c s₁ locs 0 0) (e0 : s₁.heap = h0) (N0 : Fr n0 locs)
   (κ₀ : ∀ (T' : State) (L' : List Loc) (aG2 : Addr) (aA2 : Addr) (fq : Nat → Value) (byq : Int64) (hvq : Int64) (gq : Nat → Value), Stand p l e own_r7 s m #[(.ref aH), (.ref aE)] below meth c T' L' 2 17 → Fr n0 L' → Keep h0 T'.heap [aH, aR, aS, aL] → (h0.size ≤ aG2) → (h0.size ≤ aA2) → (own_Hi Z T'.heap aH M mb aS aG2 (0 : Int32) (1 : Int32) byq sq) → (own_RE Z T'.heap aG2 M fq) → (fq (0 : Int32).toNatClampNeg = .ref aE) → (own_Rm Z T'.heap aR aS aL aA2 bd hvq (0 : Int32) (1 : Int32)) → (own_RO Z T'.heap aA2 (10 : Int32) gq) → (gq (0 : Int32).toNatClampNeg = .ref aS) → (byq.toInt = n.toInt) → (hvq.toInt = n.toInt + 128) → oG p e below F₀ (T'.setTop (mkF m 210 #[vR aH, vR aE, vI n, vI 1] []))) :
   oG p e below F₀ (s₁.setTop (mkF m 73 #[vR aH, vR aE, vI n, vI 1] [])) := by
 refine o_il X0 hx hby q16_73 ?_
 refine o_in X0 hx hby q16_74 ((if0 _ _).trans (feq (by decide)).1) ?_
 refine o_al X0 hx hby q16_77 ?_
 refine o_g X0 hx hZ hown hw hby e0 (P0.2.2.2.1) 105 q16_78 fun T1 X1 e1 => ?_
 refine o_il X1 hx hby q16_81 ?_
 refine o_cS X1 hx hZ hown hw hml hby (rm56 l Z a0 hw [] n  h0 n0 Z0 ) e1 131 132 28 133 1 q16_82 [(.int n)] [(.ref aS)] pd_22 hy_9 fun v2 T2 L2 hQ2 X2 => ?_
 obtain ⟨rfl, Nq2, eq2⟩ := hQ2
 have N2 := Fr.app N0 Nq2
 refine oV ?_
 have := c_i2l n
 have : (128 : Int64).toInt = 128 := (by decide)
 have := And.intro (c_ladd (n).toInt64 (128 : Int64)) (rng64 ((n).toInt64 + (128 : Int64)))
 have := And.intro (c_ladd hv ((n).toInt64 + (128 : Int64))) (rng64 (hv + ((n).toInt64 + (128 : Int64))))
 have : (0 : Int64).toInt = 0 := (by decide)
 refine o_cV X2 hx hZ hown hw hml hby (rm40 l Z a0 hw [] aS ((n.toInt64) + (128 : Int64)) aR aL bd hv aD kD h0 n0 Z0 P3 P4 P5 P6 (show ¬ bd < (hv + ((n.toInt64) + (128 : Int64))) from mt Int64.lt_iff_toInt_lt.mp (by omega)) (show (0 : Int64) < (hv + ((n.toInt64) + (128 : Int64))) from Int64.lt_iff_toInt_lt.mpr (by omega)) P9 P10 P11) P3.exS eq2 135 136 138 137 139 94 0 q16_85 [(.long ((n.toInt64) + (128 : Int64)))] [] pd_24 hy_10 fun v3 T3 L3 hQ3 X3 => ?_
 obtain ⟨aA4, gq5, rfl, Nq3, Kq3, p3_0, p3_1, p3_2, p3_3⟩ := hQ3
 have N3 := Fr.app N2 Nq3
 have ne6 : aH ≠ aA4 := Nat.ne_of_lt (Nat.lt_of_lt_of_le (P0.1).lt p3_0)
 have ne7 : aG ≠ aA4 := Nat.ne_of_lt (Nat.lt_of_lt_of_le P1.lt p3_0)
 have ne8 : aE ≠ aA4 := Nat.ne_of_lt (Nat.lt_of_lt_of_le (P2.1).lt p3_0)
 have ne9 : aB ≠ aA4 := Nat.ne_of_lt (Nat.lt_of_lt_of_le (P2.2.2.2).lt p3_0)
 have ne10 : aR ≠ aA4 := Nat.ne_of_lt (Nat.lt_of_lt_of_le P3.exR.lt p3_0)
 have ne11 : aS ≠ aA4 := Nat.ne_of_lt (Nat.lt_of_lt_of_le P3.exS.lt p3_0)
 have ne12 : aL ≠ aA4 := Nat.ne_of_lt (Nat.lt_of_lt_of_le P3.exL.lt p3_0)
 have ne13 : aD ≠ aA4 := Nat.ne_of_lt (Nat.lt_of_lt_of_le (P6.ext P4.2).lt p3_0)
 have ge14 : n0 ≤ aA4 := Nat.le_trans Z0 p3_0
 have sz15 : h0.size ≤ aA4 := Nat.le_trans (Keep.refl h0 [aH, aR, aS, aL]).1 p3_0
 have wx16 : own_exs Z _ [aR, aS, aL] ocl_5 := ⟨P3.exR, P3.exS, P3.exL, trivial⟩
 have ni17 := own_nin (P0.1) wx16 nc_10
 have f18 := P0.keep Kq3 ni17
 have ni19 := own_nin P1.exa wx16 nc_11
 have f20 := P1.keep Kq3 ni19
 have ni21 := own_nin (P2.1) wx16 nc_12
 have ni22 := own_nin P2.exB wx16 nc_13
 have f23 := P2.keep Kq3 ni21 ni22
 have f24 := P4.keep Kq3 (allS P9 (allS P10 (allS P11 all0)))
 have K25 := (Keep.refl h0 [aH, aR, aS, aL]).trans Kq3 (allS (ow 1 rfl) (allS (ow 2 rfl) (allS (ow 3 rfl) all0)))
 have z26 := Nat.le_trans Z0 Kq3.1
 refine oV ?_
 refine o_iy X3 hx hby q16_88 115 ((if0 _ _).trans (feq (by decide)).2) ?_
 refine o_il X3 hx hby q16_115 ?_
 refine o_in X3 hx hby q16_116 ((if0 _ _).trans (feq (by decide)).1) ?_
 refine o_al X3 hx hby q16_119 ?_
 refine o_g X3 hx hZ hown hw hby rfl (f18.2.2.2.2.2.2.1) 114 q16_120 fun T27 X27 e27 => ?_
 refine o_al X27 hx hby q16_123 ?_
 refine o_g X27 hx hZ hown hw hby e27 (f18.2.2.2.2.1) 77 q16_124 fun T28 X28 e28 => ?_
 refine o_nG X28 hx hZ hby e28 f20 q16_127 ?_
 refine o_cn X28 hx hby q16_128 ((teq rfl).2) ?_
 refine o_al X28 hx hby q16_131 ?_
 refine o_al X28 hx hby q16_132 ?_
 refine o_g X28 hx hZ hown hw hby e28 (f18.2.1) 79 q16_133 fun T30 X30 e30 => ?_
 refine o_i2l X30 hx hby q16_136 ?_
 refine oS (fun _ κ => X30.ldc2Long hx hown (mvT hZ (own_w hw 234 rfl)) (g := (mkF m 137 #[vR aH, vR aE, vI n, vI 1] [(.long (M.toInt64)), (.ref aH)])) rfl (hb hby q16_137) _ κ) ?_
 show oG _ _ _ _ (T30.setTop (mkF m 140 #[vR aH, vR aE, vI n, vI 1] [(.long 16), (.long (M.toInt64)), (.ref aH)]))
 refine oS (fun _ κ => X30.ldc2Long hx hown (mvT hZ (own_w hw 235 rfl)) (g := (mkF m 140 #[vR aH, vR aE, vI n, vI 1] [(.long 16), (.long (M.toInt64)), (.ref aH)])) rfl (hb hby q16_140) _ κ) ?_
 show oG _ _ _ _ (T30.setTop (mkF m 143 #[vR aH, vR aE, vI n, vI 1] [(.long 2), (.long 16), (.long (M.toInt64)), (.ref aH)]))
 refine o_al X30 hx hby q16_143 ?_
 refine o_g X30 hx hZ hown hw hby e30 (f18.2.2.2.2.1) 77 q16_144 fun T31 X31 e31 => ?_
 refine o_nG X31 hx hZ hby e31 f20 q16_147 ?_
 refine o_i2l X31 hx hby q16_148 ?_
 refine o_lmul X31 hx hby q16_149 ?_
 refine o_cS X31 hx hZ hown hw hml hby (rm57 l Z a0 hw [] ((2 : Int64) * ((0 : Int32).toInt64))  T3.heap n0 z26 (by decide)) e31 236 237 200 238 3 q16_150 [(.long 16), (.long ((2 : Int64) * ((0 : Int32).toInt64)))] [(.long (M.toInt64)), (.ref aH)] pd_26 hy_3 fun v33 T33 L33 hQ33 X33 => ?_
 obtain ⟨rfl, Nq33, eq33⟩ := hQ33
 have N33 := Fr.app N3 Nq33
 refine oV ?_
 have : (16 : Int64).toInt = 16 := (by decide)
 have := c_i2l M
 refine o_cS X33 hx hZ hown hw hml hby (rm58 l Z a0 hw [] (M.toInt64)  T3.heap n0 z26 (show ¬ (16 : Int64) < (M.toInt64) from mt Int64.lt_iff_toInt_lt.mp (by omega))) eq33 239 240 200 241 1 q16_153 [(.long (M.toInt64)), (.long 16)] [(.ref aH)] pd_26 hy_3 fun v34 T34 L34 hQ34 X34 => ?_
 obtain ⟨rfl, Nq34, eq34⟩ := hQ34
 have N34 := Fr.app N33 Nq34
 refine oV ?_
 refine o_l2i X34 hx hby q16_156 ?_
 show oG _ _ _ _ (T34.setTop (mkF m 157 #[vR aH, vR aE, vI n, vI 1] [(.int ((M.toInt64).toInt32)), (.ref aH)]))
 rw [own_i2l2i]
 show oG _ _ _ _ (T34.setTop (mkF m 157 #[vR aH, vR aE, vI n, vI 1] [(.int M), (.ref aH)]))
 refine o_cP X34 hx hZ hown hw hml hby (rm59 l Z a0 hw [] aH M M mb aS aG (0 : Int32) by_ ls T3.heap n0 z26 f18 P7 P12) (f18.1) eq34 242 243 27 244 245 28 0 q16_157 [(.int M)] [] pd_27 hy_9 fun v35 T35 L35 hQ35 X35 => ?_
 obtain ⟨r36, rfl, Nq35, Kq35, p35_0, p35_1, p35_2⟩ := hQ35
 have N35 := Fr.app N34 Nq35
 have ne37 : aH ≠ r36 := Nat.ne_of_lt (Nat.lt_of_lt_of_le (f18.1).lt p35_0)
 have ne38 : aG ≠ r36 := Nat.ne_of_lt (Nat.lt_of_lt_of_le f20.lt p35_0)
 have ne39 : aE ≠ r36 := Nat.ne_of_lt (Nat.lt_of_lt_of_le (f23.1).lt p35_0)
 have ne40 : aB ≠ r36 := Nat.ne_of_lt (Nat.lt_of_lt_of_le (f23.2.2.2).lt p35_0)
 have ne41 : aD ≠ r36 := Nat.ne_of_lt (Nat.lt_of_lt_of_le (P6.ext f24.2).lt p35_0)
 have ne42 : aR ≠ r36 := Nat.ne_of_lt (Nat.lt_of_lt_of_le p3_1.exR.lt p35_0)
 have ne43 : aS ≠ r36 := Nat.ne_of_lt (Nat.lt_of_lt_of_le p3_1.exS.lt p35_0)
 have ne44 : aL ≠ r36 := Nat.ne_of_lt (Nat.lt_of_lt_of_le p3_1.exL.lt p35_0)
 have ne45 : aA4 ≠ r36 := Nat.ne_of_lt (Nat.lt_of_lt_of_le p3_2.lt p35_0)
 have ge46 : n0 ≤ r36 := Nat.le_trans z26 p35_0
 have sz47 : h0.size ≤ r36 := Nat.le_trans K25.1 p35_0
 have ne48 := own_neE f20.exa (f18.1) ns_8
 have f49 := f20.keep Kq35 (ninS ne48 nin0)
 have ne50 := own_neE (f23.1) (f18.1) ns_15
 have ne51 := own_neE f23.exB (f18.1) ns_16
 have f52 := f23.keep Kq35 (ninS ne50 nin0) (ninS ne51 nin0)
 have f53 := f24.keep Kq35 (allS P7 all0)
 have ne54 := own_neE p3_1.exR (f18.1) ns_6
 have ne55 := own_neE p3_1.exS (f18.1) ns_17
 have ne56 := own_neE p3_1.exL (f18.1) (Ne.symm ns_7)
 have f57 := p3_1.keep Kq35 (ninS ne54 nin0) (ninS ne55 nin0) (ninS ne56 nin0)
 have f58 := p3_2.keep Kq35 (ninS (Ne.symm ne6) nin0)
 have K59 := K25.trans Kq35 (allS (ow 0 rfl) all0)
 have z60 := Nat.le_trans z26 Kq35.1
 refine oN ?_
 refine o_al X35 hx hby q16_160 ?_
 refine o_g X35 hx hZ hown hw hby rfl (p35_1.2.2.2.2.1) 77 q16_161 fun T61 X61 e61 => ?_
 refine o_al X61 hx hby q16_164 ?_
 refine o_g X61 hx hZ hown hw hby e61 (p35_1.2.2.2.2.2.1) 246 q16_165 fun T62 X62 e62 => ?_
 refine o_al X62 hx hby q16_168 ?_
 refine o_g X62 hx hZ hown hw hby e62 (p35_1.2.2.2.2.2.2.1) 114 q16_169 fun T63 X63 e63 => ?_
 refine o_iadd X63 hx hby q16_172 ?_
 rw [show (((0 : Int32) + (0 : Int32)) : Int32) = (0 : Int32) from by decide]
 refine o_al X63 hx hby q16_173 ?_
 refine o_g X63 hx hZ hown hw hby e63 (p35_1.2.2.2.2.1) 77 q16_174 fun T64 X64 e64 => ?_
 refine o_nG X64 hx hZ hby e64 p35_2 q16_177 ?_
 have : (0 : Int32).toInt = 0 := (by decide)
 refine oS (fun _ κ => iremM X64 hx rfl (hb hby q16_178) rfl (show ¬ (M = (0 : Int32)) from mt (congrArg Int32.toInt) (by omega)) κ) ?_
 show oG _ _ _ _ (T64.setTop (mkF m 179 #[vR aH, vR aE, vI n, vI 1] [(.int ((0 : Int32) % M)), (.ref r36)]))
 refine o_al X64 hx hby q16_179 ?_
 have := c_iremV (0 : Int32) M
 obtain ⟨cl66, Ar66, Sz66, Nz66, Ov66, -⟩ := p35_2.opened
 have hin66 := inb_of (j := ((0 : Int32) % M)) Sz66 ⟨(show ¬ (((0 : Int32) % M) < (0 : Int32)) from mt Int32.lt_iff_toInt_lt.mp (by omega)), (show ((0 : Int32) % M) < M from Int32.lt_iff_toInt_lt.mpr (by omega))⟩
 obtain ⟨T66, h66, X66, e66, W66, st66⟩ := stR X64 hx hZ e64 Ar66 (j := ((0 : Int32) % M)) (v := (.ref aE)) hin66 rfl (Sto.of Ar66 Ov66 (Ins.self (f52.1))) (g := (mkF m 180 #[vR aH, vR aE, vI n, vI 1] [(.ref aE), (.int ((0 : Int32) % M)), (.ref r36)])) rfl rfl (hb hby q16_180)
 refine oS st66 ?_
 have N66 := Fr.snoc X66 N35 ge46
 have V66 : own_RE Z h66 r36 M (own_updV own_nulls ((0 : Int32) % M).toNatClampNeg (.ref aE)) := p35_2.set W66 ⟨(show ¬ (((0 : Int32) % M) < (0 : Int32)) from mt Int32.lt_iff_toInt_lt.mp (by omega)), (show ((0 : Int32) % M) < M from Int32.lt_iff_toInt_lt.mpr (by omega))⟩ rfl
 have f67 := f49.other W66 ne38
 have f68 := f52.other W66 ne39 ne40
 have f69 := f53.wr W66 ge46
 have f70 := f57.other W66 ne42 ne43 ne44
 have f71 := f58.other W66 ne45
 have f72 := p35_1.other W66 ne37
 have K73 := K59.wr W66 (Or.inr sz47)
 have z74 := Nat.le_trans z60 (Keep.of_wr W66).1
 show oG _ _ _ _ (T66.setTop (mkF m 181 #[vR aH, vR aE, vI n, vI 1] []))
 refine o_al X66 hx hby q16_181 ?_
 refine o_dup X66 hx hby q16_182 ?_
 refine o_g X66 hx hZ hown hw hby e66 (f72.2.2.2.2.2.2.1) 114 q16_183 fun T75 X75 e75 => ?_
 refine o_ic X75 hx hby 1 q16_186 ?_
 refine o_iadd X75 hx hby q16_187 ?_
 rw [show (((0 : Int32) + (1 : Int32)) : Int32) = (1 : Int32) from by decide]
 refine o_pF X75 hx hZ hown hby (own_w hw 114 rfl) Via.refl e75 (f72.2.2.2.2.2.2.1) (f72.1) (Or.inl (own_w hw 115 rfl)) (own_w hw 27 rfl) ft_1 q16_188 fun T76 h76 X76 e76 W76 => ?_
 have N76 := Fr.snoc X76 N66 P7
 have Fw76 := (f72.2.2.2.2.2.2.1).same W76
 have f77 := f67.other W76 ne48
 have f78 := f68.other W76 ne50 ne51
 have f79 := f69.wr W76 P7
 have f80 := f70.other W76 ne54 ne55 ne56
 have f81 := f71.other W76 (Ne.symm ne6)
 have f82 := V66.other W76 (Ne.symm ne37)
 have f83 := (f72.1).wr W76
 have f84 := (f72.2.1).other W76 (Or.inr (sn_83 hw))
 have f85 := (f72.2.2.1).other W76 (Or.inr (sn_84 hw))
 have f86 := (f72.2.2.2.1).other W76 (Or.inr (sn_85 hw))
 have f87 := (f72.2.2.2.2.1).other W76 (Or.inr (sn_86 hw))
 have f88 := (f72.2.2.2.2.2.1).other W76 (Or.inr (sn_89 hw))
 have f89 := (f72.2.2.2.2.2.2.2.1).other W76 (Or.inr (sn_87 hw))
 have f90 := (f72.2.2.2.2.2.2.2.2).other W76 (Or.inr (sn_88 hw))
 have K91 := K73.wr W76 (ow 0 rfl)
 have z92 := Nat.le_trans z74 (Keep.of_wr W76).1
 refine o_al X76 hx hby q16_191 ?_
 refine o_dup X76 hx hby q16_192 ?_
 refine o_g X76 hx hZ hown hw hby e76 f89 248 q16_193 fun T93 X93 e93 => ?_
 refine o_il X93 hx hby q16_196 ?_
 refine o_i2l X93 hx hby q16_197 ?_
 refine o_ladd X93 hx hby q16_198 ?_
 refine o_pF X93 hx hZ hown hby (own_w hw 248 rfl) Via.refl e93 f89 f83 (Or.inl (own_w hw 249 rfl)) (own_w hw 27 rfl) ft_2 q16_199 fun T94 h94 X94 e94 W94 => ?_
 have N94 := Fr.snoc X94 N76 P7
 have Fw94 := f89.same W94
 have f95 := f77.other W94 ne48
 have f96 := f78.other W94 ne50 ne51
 have f97 := f79.wr W94 P7
 have f98 := f80.other W94 ne54 ne55 ne56
 have f99 := f81.other W94 (Ne.symm ne6)
 have f100 := f82.other W94 (Ne.symm ne37)
 have f101 := f83.wr W94
 have f102 := f84.other W94 (Or.inr (sn_90 hw))
 have f103 := f85.other W94 (Or.inr (sn_91 hw))
 have f104 := f86.other W94 (Or.inr (sn_92 hw))
 have f105 := f87.other W94 (Or.inr (sn_93 hw))
 have f106 := f88.other W94 (Or.inr (sn_95 hw))
 have f107 := f90.other W94 (Or.inr (sn_94 hw))
 have f108 := Fw76.other W94 (Or.inr (sn_96 hw))
 have K109 := K91.wr W94 (ow 0 rfl)
 have z110 := Nat.le_trans z92 (Keep.of_wr W94).1
 refine o_al X94 hx hby q16_202 ?_
 refine o_al X94 hx hby q16_203 ?_
 refine o_cV X94 hx hZ hown hw hml hby (rm50 l Z a0 hw [] aE sq h94 n0 z110 (f96.2.1)) (f96.1) e94 250 251 253 252 254 8 1 q16_204 [] [(.ref aH)] pd_25 hy_8 fun v111 T111 L111 hQ111 X111 => ?_
 obtain ⟨rfl, Nq111, eq111⟩ := hQ111
 have N111 := Fr.app N94 Nq111
 refine oV ?_
 refine o_pF X111 hx hZ hown hby (own_w hw 112 rfl) Via.refl eq111 f107 f101 (Or.inl (own_w hw 113 rfl)) (own_w hw 27 rfl) ft_2 q16_207 fun T112 h112 X112 e112 W112 => ?_
 have N112 := Fr.snoc X112 N111 P7
 have Fw112 := f107.same W112
 have f113 := f95.other W112 ne48
 have f114 := f96.other W112 ne50 ne51
 have f115 := f97.wr W112 P7
 have f116 := f98.other W112 ne54 ne55 ne56
 have f117 := f99.other W112 (Ne.symm ne6)
 have f118 := f100.other W112 (Ne.symm ne37)
 have f119 := f101.wr W112
 have f120 := f102.other W112 (Or.inr (sn_97 hw))
 have f121 := f103.other W112 (Or.inr (sn_98 hw))
 have f122 := f104.other W112 (Or.inr (sn_99 hw))
 have f123 := f105.other W112 (Or.inr (sn_100 hw))
 have f124 := f106.other W112 (Or.inr (sn_101 hw))
 have f125 := f108.other W112 (Or.inr (sn_102 hw))
 have f126 := Fw94.other W112 (Or.inr (sn_103 hw))
 have K127 := K109.wr W112 (ow 0 rfl)
 have z128 := Nat.le_trans z110 (Keep.of_wr W112).1
 have := And.intro (c_ladd by_ (n).toInt64) (rng64 (by_ + (n).toInt64))
 exact κ₀ _ _ r36 aA4 (own_updV own_nulls ((0 : Int32) % M).toNatClampNeg (.ref aE)) (by_ + (n.toInt64)) (hv + ((n.toInt64) + (128 : Int64))) gq5 (X112.more (by decide) (by decide)) N112 (by rw [e112]; exact K127) sz47 sz15 (by rw [e112]; exact ⟨f119, f120, f121, f122, f123, f124, f125, f126, Fw112⟩) (by rw [e112]; exact f118) (if_pos (own_eqp (show (0 : Int32).toInt = ((0 : Int32) % M).toInt from by omega))) (by rw [e112]; exact f116) (by rw [e112]; exact f117) p3_3 (show (by_ + (n.toInt64)).toInt = n.toInt from by omega) (show (hv + ((n.toInt64) + (128 : Int64))).toInt = n.toInt + 128 from by omega)
set_option maxRecDepth 65536 in
set_option maxHeartbeats 40000000 in
theorem sg64 (l Z a0) (hw : oW a0 Z) (aH aE : Addr) (M : Int32) (mb : Int64) (aS aG : Addr) (hd : Int32) (by_ ls : Int64) (f : Nat → Value) (aB : Addr) (sq : Int64) (n : Int32) (aR aL : Addr) (bd hv : Int64) (aA : Addr) (g : Nat → Value) (h0 : Heap) (n0 : Nat) (Z0 : n0 ≤ h0.size) (P0 : own_Hi Z h0 aH M mb aS aG hd (0 : Int32) by_ ls) (P1 : own_RE Z h0 aG M f) (P2 : own_Ev Z h0 aE aB sq n) (P3 : own_Rm Z h0 aR aS aL aA bd hv (-1 : Int32) (0 : Int32)) (P4 : own_RO Z h0 aA (10 : Int32) g) (P5 : n0 ≤ aH) (P6 : n0 ≤ aG) (P7 : n0 ≤ aR) (P8 : n0 ≤ aS) (P9 : n0 ≤ aL) (P10 : n0 ≤ aA) (P11 : 0 ≤ M.toInt ∧ M.toInt ≤ 7) (P12 : 0 ≤ hd.toInt ∧ hd.toInt < M.toInt) (P13 : 0 ≤ n.toInt ∧ n.toInt ≤ 7) (P14 : 0 ≤ mb.toInt) (P15 : by_.toInt = 0) (P16 : hv.toInt = 0) (P17 : 1 ≤ M.toInt) (P18 : n.toInt ≤ mb.toInt) (P19 : bd.toInt < n.toInt + 128)
   (hx : p.tables.exec = Jvm.exec) (hby : c.code = kc16) (hml : c.maxLocals = 4) (hZ : Z.Warmed39 s.vm) (hown : s.vm.findClass "com/example/lockstep/lockstep/session/History" = some m.cls)
   (X0 : Stand p l e own_r7 s m #[(.ref aH), (.ref aE)] below meth c s₁ locs 0 0) (e0 : s₁.heap = h0) (N0 : Fr n0 locs)
   (κ₀ : ∀ (T' : State) (L' : List Loc) (hdq : Int32) (fq : Nat → Value) (byq : Int64) (hvq : Int64) (gq : Nat → Value), Stand p l e own_r7 s m #[(.ref aH), (.ref aE)] below meth c T' L' 2 17 → Fr n0 L' → Keep h0 T'.heap [aH, aG, aR, aS, aL, aA] → (own_Hi Z T'.heap aH M mb aS aG hdq (0 : Int32) byq sq) → (own_RE Z T'.heap aG M fq) → (own_Rm Z T'.heap aR aS aL aA bd hvq (-1 : Int32) (0 : Int32)) → (own_RO Z T'.heap aA (10 : Int32) gq) → (0 ≤ hdq.toInt ∧ hdq.toInt < M.toInt) → (byq.toInt = 0) → (hvq.toInt = 0) → oG p e below F₀ (T'.setTop (mkF m 210 #[vR aH, vR aE, vI n, vI 0] []))) :
   oG p e below F₀ (s₁.setTop (mkF m 73 #[vR aH, vR aE, vI n, vI 1] [])) := by
 refine o_il X0 hx hby q16_73 ?_
 refine o_in X0 hx hby q16_74 ((if0 _ _).trans (feq (by decide)).1) ?_
 refine o_al X0 hx hby q16_77 ?_
 refine o_g X0 hx hZ hown hw hby e0 (P0.2.2.2.1) 105 q16_78 fun T1 X1 e1 => ?_
 refine o_il X1 hx hby q16_81 ?_
 refine o_cS X1 hx hZ hown hw hml hby (rm56 l Z a0 hw [] n  h0 n0 Z0 ) e1 131 132 28 133 1 q16_82 [(.int n)] [(.ref aS)] pd_22 hy_9 fun v2 T2 L2 hQ2 X2 => ?_
 obtain ⟨rfl, Nq2, eq2⟩ := hQ2
 have N2 := Fr.app N0 Nq2
 refine oV ?_
 have := c_i2l n
 have : (128 : Int64).toInt = 128 := (by decide)
 have := And.intro (c_ladd (n).toInt64 (128 : Int64)) (rng64 ((n).toInt64 + (128 : Int64)))
 have := And.intro (c_ladd hv ((n).toInt64 + (128 : Int64))) (rng64 (hv + ((n).toInt64 + (128 : Int64))))
 refine o_cV X2 hx hZ hown hw hml hby (rm44 l Z a0 hw [] aS ((n.toInt64) + (128 : Int64)) aR aL bd hv aA g h0 n0 Z0 P3 P4 (show bd < (hv + ((n.toInt64) + (128 : Int64))) from Int64.lt_iff_toInt_lt.mpr (by omega))) P3.exS eq2 135 136 138 137 139 94 0 q16_85 [(.long ((n.toInt64) + (128 : Int64)))] [] pd_24 hy_10 fun v3 T3 L3 hQ3 X3 => ?_
 obtain ⟨rfl, Nq3, eq3⟩ := hQ3
 have N3 := Fr.app N2 Nq3
 refine oV ?_
 refine o_in X3 hx hby q16_88 ((if0 _ _).trans (teq rfl).2) ?_
 refine o_al X3 hx hby q16_91 ?_
 refine o_g X3 hx hZ hown hw hby eq3 (P0.2.2.2.2.2.2.1) 114 q16_92 fun T4 X4 e4 => ?_
 refine o_iy X4 hx hby q16_95 102 ((if0 _ _).trans (flt (by decide)).2.2.2) ?_
 refine o_ic X4 hx hby 0 q16_102 ?_
 refine o_is X4 hx hby q16_103 #[vR aH, vR aE, vI n, vI 0] ?_
 refine o_il X4 hx hby q16_104 ?_
 refine o_iy X4 hx hby q16_105 73 ((if0 _ _).trans (teq rfl).1) ?_
 refine o_il X4 hx hby q16_73 ?_
 refine o_iy X4 hx hby q16_74 115 ((if0 _ _).trans (teq rfl).1) ?_
 refine o_il X4 hx hby q16_115 ?_
 refine o_iy X4 hx hby q16_116 202 ((if0 _ _).trans (teq rfl).1) ?_
 refine o_al X4 hx hby q16_202 ?_
 refine o_al X4 hx hby q16_203 ?_
 refine o_cV X4 hx hZ hown hw hml hby (rm50 l Z a0 hw [] aE sq h0 n0 Z0 (P2.2.1)) (P2.1) e4 250 251 253 252 254 8 1 q16_204 [] [(.ref aH)] pd_25 hy_8 fun v5 T5 L5 hQ5 X5 => ?_
 obtain ⟨rfl, Nq5, eq5⟩ := hQ5
 have N5 := Fr.app N3 Nq5
 refine oV ?_
 refine o_pF X5 hx hZ hown hby (own_w hw 112 rfl) Via.refl eq5 (P0.2.2.2.2.2.2.2.2) (P0.1) (Or.inl (own_w hw 113 rfl)) (own_w hw 27 rfl) ft_2 q16_207 fun T6 h6 X6 e6 W6 => ?_
 have N6 := Fr.snoc X6 N5 P5
 have Fw6 := (P0.2.2.2.2.2.2.2.2).same W6
 have ne7 := own_neE P1.exa (P0.1) ns_8
 have f8 := P1.other W6 ne7
 have ne9 := own_neE (P2.1) (P0.1) ns_15
 have ne10 := own_neE P2.exB (P0.1) ns_16
 have f11 := P2.other W6 ne9 ne10
 have ne12 := own_neE P3.exR (P0.1) ns_6
 have ne13 := own_neE P3.exS (P0.1) ns_17
 have ne14 := own_neE P3.exL (P0.1) (Ne.symm ns_7)
 have f15 := P3.other W6 ne12 ne13 ne14
 have ne16 := own_neE P4.exa (P0.1) ns_18
 have f17 := P4.other W6 ne16
 have f18 := (P0.1).wr W6
 have f19 := (P0.2.1).other W6 (Or.inr (sn_97 hw))
 have f20 := (P0.2.2.1).other W6 (Or.inr (sn_98 hw))
 have f21 := (P0.2.2.2.1).other W6 (Or.inr (sn_99 hw))
 have f22 := (P0.2.2.2.2.1).other W6 (Or.inr (sn_100 hw))
 have f23 := (P0.2.2.2.2.2.1).other W6 (Or.inr (sn_101 hw))
 have f24 := (P0.2.2.2.2.2.2.1).other W6 (Or.inr (sn_102 hw))
 have f25 := (P0.2.2.2.2.2.2.2.1).other W6 (Or.inr (sn_103 hw))
 have K26 := (Keep.refl h0 [aH, aG, aR, aS, aL, aA]).wr W6 (ow 0 rfl)
 have z27 := Nat.le_trans Z0 (Keep.of_wr W6).1
 exact κ₀ _ _ hd f by_ hv g (X6.more (by decide) (by decide)) N6 (by rw [e6]; exact K26) (by rw [e6]; exact ⟨f18, f19, f20, f21, f22, f23, f24, f25, Fw6⟩) (by rw [e6]; exact f8) (by rw [e6]; exact f15) (by rw [e6]; exact f17) P12 P15 P16
set_option maxRecDepth 65536 in
set_option maxHeartbeats 40000000 in
theorem sg65 (l Z a0) (hw : oW a0 Z) (aH aE : Addr) (M : Int32) (mb : Int64) (aS aG : Addr) (hd : Int32) (by_ ls : Int64) (f : Nat → Value) (aB : Addr) (sq : Int64) (n : Int32) (aR aL : Addr) (bd hv : Int64) (aA : Addr) (g : Nat → Value) (h0 : Heap) (n0 : Nat) (Z0 : n0 ≤ h0.size) (P0 : own_Hi Z h0 aH M mb aS aG hd (0 : Int32) by_ ls) (P1 : own_RE Z h0 aG M f) (P2 : own_Ev Z h0 aE aB sq n) (P3 : own_Rm Z h0 aR aS aL aA bd hv (-1 : Int32) (0 : Int32)) (P4 : own_RO Z h0 aA (10 : Int32) g) (P5 : n0 ≤ aH) (P6 : n0 ≤ aG) (P7 : n0 ≤ aR) (P8 : n0 ≤ aS) (P9 : n0 ≤ aL) (P10 : n0 ≤ aA) (P11 : 0 ≤ M.toInt ∧ M.toInt ≤ 7) (P12 : 0 ≤ hd.toInt ∧ hd.toInt < M.toInt) (P13 : 0 ≤ n.toInt ∧ n.toInt ≤ 7) (P14 : 0 ≤ mb.toInt) (P15 : by_.toInt = 0) (P16 : hv.toInt = 0) (P17 : 1 ≤ M.toInt) (P18 : n.toInt ≤ mb.toInt) (P19 : n.toInt + 128 ≤ bd.toInt)
   (hx : p.tables.exec = Jvm.exec) (hby : c.code = kc16) (hml : c.maxLocals = 4) (hZ : Z.Warmed39 s.vm) (hown : s.vm.findClass "com/example/lockstep/lockstep/session/History" = some m.cls)
   (X0 : Stand p l e own_r7 s m #[(.ref aH), (.ref aE)] below meth c s₁ locs 0 0) (e0 : s₁.heap = h0) (N0 : Fr n0 locs)
   (κ₀ : ∀ (T' : State) (L' : List Loc) (hdq : Int32) (fq : Nat → Value) (byq : Int64) (hvq : Int64) (gq : Nat → Value), Stand p l e own_r7 s m #[(.ref aH), (.ref aE)] below meth c T' L' 2 17 → Fr n0 L' → Keep h0 T'.heap [aH, aG, aR, aS, aL, aA] → (own_Hi Z T'.heap aH M mb aS aG hdq (1 : Int32) byq sq) → (own_RE Z T'.heap aG M fq) → (fq hdq.toNatClampNeg = .ref aE) → (own_Rm Z T'.heap aR aS aL aA bd hvq (0 : Int32) (1 : Int32)) → (own_RO Z T'.heap aA (10 : Int32) gq) → (gq (0 : Int32).toNatClampNeg = .ref aS) → (0 ≤ hdq.toInt ∧ hdq.toInt < M.toInt) → (byq.toInt = n.toInt) → (hvq.toInt = n.toInt + 128) → oG p e below F₀ (T'.setTop (mkF m 210 #[vR aH, vR aE, vI n, vI 1] []))) :
   oG p e below F₀ (s₁.setTop (mkF m 73 #[vR aH, vR aE, vI n, vI 1] [])) := by
 refine o_il X0 hx hby q16_73 ?_
 refine o_in X0 hx hby q16_74 ((if0 _ _).trans (feq (by decide)).1) ?_
 refine o_al X0 hx hby q16_77 ?_
 refine o_g X0 hx hZ hown hw hby e0 (P0.2.2.2.1) 105 q16_78 fun T1 X1 e1 => ?_
 refine o_il X1 hx hby q16_81 ?_
 refine o_cS X1 hx hZ hown hw hml hby (rm56 l Z a0 hw [] n  h0 n0 Z0 ) e1 131 132 28 133 1 q16_82 [(.int n)] [(.ref aS)] pd_22 hy_9 fun v2 T2 L2 hQ2 X2 => ?_
 obtain ⟨rfl, Nq2, eq2⟩ := hQ2
 have N2 := Fr.app N0 Nq2
 refine oV ?_
 have := c_i2l n
 have : (128 : Int64).toInt = 128 := (by decide)
 have := And.intro (c_ladd (n).toInt64 (128 : Int64)) (rng64 ((n).toInt64 + (128 : Int64)))
 have := And.intro (c_ladd hv ((n).toInt64 + (128 : Int64))) (rng64 (hv + ((n).toInt64 + (128 : Int64))))
 have : (0 : Int64).toInt = 0 := (by decide)
 refine o_cV X2 hx hZ hown hw hml hby (rm41 l Z a0 hw [] aS ((n.toInt64) + (128 : Int64)) aR aL bd hv aA g h0 n0 Z0 P3 P4 (show ¬ bd < (hv + ((n.toInt64) + (128 : Int64))) from mt Int64.lt_iff_toInt_lt.mp (by omega)) (show (0 : Int64) < (hv + ((n.toInt64) + (128 : Int64))) from Int64.lt_iff_toInt_lt.mpr (by omega)) P7 P8 P9 P10) P3.exS eq2 135 136 138 137 139 94 0 q16_85 [(.long ((n.toInt64) + (128 : Int64)))] [] pd_24 hy_10 fun v3 T3 L3 hQ3 X3 => ?_
 obtain ⟨gq4, rfl, Nq3, Kq3, p3_0, p3_1, p3_2⟩ := hQ3
 have N3 := Fr.app N2 Nq3
 have wx5 : own_exs Z _ [aR, aS, aL, aA] ocl_4 := ⟨P3.exR, P3.exS, P3.exL, P4.exa, trivial⟩
 have ni6 := own_nin (P0.1) wx5 nc_9
 have f7 := P0.keep Kq3 ni6
 have ni8 := own_nin P1.exa wx5 nc_8
 have f9 := P1.keep Kq3 ni8
 have ni10 := own_nin (P2.1) wx5 nc_6
 have ni11 := own_nin P2.exB wx5 nc_7
 have f12 := P2.keep Kq3 ni10 ni11
 have K13 := (Keep.refl h0 [aH, aG, aR, aS, aL, aA]).trans Kq3 (allS (ow 2 rfl) (allS (ow 3 rfl) (allS (ow 4 rfl) (allS (ow 5 rfl) all0))))
 have z14 := Nat.le_trans Z0 Kq3.1
 refine oV ?_
 refine o_iy X3 hx hby q16_88 115 ((if0 _ _).trans (feq (by decide)).2) ?_
 refine o_il X3 hx hby q16_115 ?_
 refine o_in X3 hx hby q16_116 ((if0 _ _).trans (feq (by decide)).1) ?_
 refine o_al X3 hx hby q16_119 ?_
 refine o_g X3 hx hZ hown hw hby rfl (f7.2.2.2.2.2.2.1) 114 q16_120 fun T15 X15 e15 => ?_
 refine o_al X15 hx hby q16_123 ?_
 refine o_g X15 hx hZ hown hw hby e15 (f7.2.2.2.2.1) 77 q16_124 fun T16 X16 e16 => ?_
 refine o_nG X16 hx hZ hby e16 f9 q16_127 ?_
 have : (0 : Int32).toInt = 0 := (by decide)
 refine o_cy X16 hx hby q16_128 160 ((feq (show ¬ ((0 : Int32) = M) from mt (congrArg Int32.toInt) (by omega))).2) ?_
 refine o_al X16 hx hby q16_160 ?_
 refine o_g X16 hx hZ hown hw hby e16 (f7.2.2.2.2.1) 77 q16_161 fun T18 X18 e18 => ?_
 refine o_al X18 hx hby q16_164 ?_
 refine o_g X18 hx hZ hown hw hby e18 (f7.2.2.2.2.2.1) 246 q16_165 fun T19 X19 e19 => ?_
 refine o_al X19 hx hby q16_168 ?_
 refine o_g X19 hx hZ hown hw hby e19 (f7.2.2.2.2.2.2.1) 114 q16_169 fun T20 X20 e20 => ?_
 refine o_iadd X20 hx hby q16_172 ?_
 refine o_al X20 hx hby q16_173 ?_
 refine o_g X20 hx hZ hown hw hby e20 (f7.2.2.2.2.1) 77 q16_174 fun T21 X21 e21 => ?_
 refine o_nG X21 hx hZ hby e21 f9 q16_177 ?_
 refine oS (fun _ κ => iremM X21 hx rfl (hb hby q16_178) rfl (show ¬ (M = (0 : Int32)) from mt (congrArg Int32.toInt) (by omega)) κ) ?_
 show oG _ _ _ _ (T21.setTop (mkF m 179 #[vR aH, vR aE, vI n, vI 1] [(.int ((hd + (0 : Int32)) % M)), (.ref aG)]))
 refine o_al X21 hx hby q16_179 ?_
 have := And.intro (c_iadd hd (0 : Int32)) (rng32 (hd + (0 : Int32)))
 have := c_iremV (hd + (0 : Int32)) M
 obtain ⟨cl23, Ar23, Sz23, Nz23, Ov23, -⟩ := f9.opened
 have hin23 := inb_of (j := ((hd + (0 : Int32)) % M)) Sz23 ⟨(show ¬ (((hd + (0 : Int32)) % M) < (0 : Int32)) from mt Int32.lt_iff_toInt_lt.mp (by omega)), (show ((hd + (0 : Int32)) % M) < M from Int32.lt_iff_toInt_lt.mpr (by omega))⟩
 obtain ⟨T23, h23, X23, e23, W23, st23⟩ := stR X21 hx hZ e21 Ar23 (j := ((hd + (0 : Int32)) % M)) (v := (.ref aE)) hin23 rfl (Sto.of Ar23 Ov23 (Ins.self (f12.1))) (g := (mkF m 180 #[vR aH, vR aE, vI n, vI 1] [(.ref aE), (.int ((hd + (0 : Int32)) % M)), (.ref aG)])) rfl rfl (hb hby q16_180)
 refine oS st23 ?_
 have N23 := Fr.snoc X23 N3 P6
 have V23 : own_RE Z h23 aG M (own_updV f ((hd + (0 : Int32)) % M).toNatClampNeg (.ref aE)) := f9.set W23 ⟨(show ¬ (((hd + (0 : Int32)) % M) < (0 : Int32)) from mt Int32.lt_iff_toInt_lt.mp (by omega)), (show ((hd + (0 : Int32)) % M) < M from Int32.lt_iff_toInt_lt.mpr (by omega))⟩ rfl
 have ne24 := own_neE (f7.1) f9.exa (Ne.symm ns_8)
 have f25 := f7.other W23 ne24
 have ne26 := own_neE (f12.1) f9.exa (Ne.symm ns_9)
 have ne27 := own_neE f12.exB f9.exa ns_10
 have f28 := f12.other W23 ne26 ne27
 have ne29 := own_neE p3_0.exR f9.exa (Ne.symm ns_11)
 have ne30 := own_neE p3_0.exS f9.exa (Ne.symm ns_12)
 have ne31 := own_neE p3_0.exL f9.exa (Ne.symm ns_13)
 have f32 := p3_0.other W23 ne29 ne30 ne31
 have ne33 := own_neE p3_1.exa f9.exa (Ne.symm ns_14)
 have f34 := p3_1.other W23 ne33
 have K35 := K13.wr W23 (ow 1 rfl)
 have z36 := Nat.le_trans z14 (Keep.of_wr W23).1
 show oG _ _ _ _ (T23.setTop (mkF m 181 #[vR aH, vR aE, vI n, vI 1] []))
 refine o_al X23 hx hby q16_181 ?_
 refine o_dup X23 hx hby q16_182 ?_
 refine o_g X23 hx hZ hown hw hby e23 (f25.2.2.2.2.2.2.1) 114 q16_183 fun T37 X37 e37 => ?_
 refine o_ic X37 hx hby 1 q16_186 ?_
 refine o_iadd X37 hx hby q16_187 ?_
 rw [show (((0 : Int32) + (1 : Int32)) : Int32) = (1 : Int32) from by decide]
 refine o_pF X37 hx hZ hown hby (own_w hw 114 rfl) Via.refl e37 (f25.2.2.2.2.2.2.1) (f25.1) (Or.inl (own_w hw 115 rfl)) (own_w hw 27 rfl) ft_1 q16_188 fun T38 h38 X38 e38 W38 => ?_
 have N38 := Fr.snoc X38 N23 P5
 have Fw38 := (f25.2.2.2.2.2.2.1).same W38
 have ne39 := own_neE (f28.1) (f25.1) ns_15
 have ne40 := own_neE f28.exB (f25.1) ns_16
 have f41 := f28.other W38 ne39 ne40
 have ne42 := own_neE f32.exR (f25.1) ns_6
 have ne43 := own_neE f32.exS (f25.1) ns_17
 have ne44 := own_neE f32.exL (f25.1) (Ne.symm ns_7)
 have f45 := f32.other W38 ne42 ne43 ne44
 have ne46 := own_neE f34.exa (f25.1) ns_18
 have f47 := f34.other W38 ne46
 have f48 := V23.other W38 (Ne.symm ne24)
 have f49 := (f25.1).wr W38
 have f50 := (f25.2.1).other W38 (Or.inr (sn_83 hw))
 have f51 := (f25.2.2.1).other W38 (Or.inr (sn_84 hw))
 have f52 := (f25.2.2.2.1).other W38 (Or.inr (sn_85 hw))
 have f53 := (f25.2.2.2.2.1).other W38 (Or.inr (sn_86 hw))
 have f54 := (f25.2.2.2.2.2.1).other W38 (Or.inr (sn_89 hw))
 have f55 := (f25.2.2.2.2.2.2.2.1).other W38 (Or.inr (sn_87 hw))
 have f56 := (f25.2.2.2.2.2.2.2.2).other W38 (Or.inr (sn_88 hw))
 have K57 := K35.wr W38 (ow 0 rfl)
 have z58 := Nat.le_trans z36 (Keep.of_wr W38).1
 refine o_al X38 hx hby q16_191 ?_
 refine o_dup X38 hx hby q16_192 ?_
 refine o_g X38 hx hZ hown hw hby e38 f55 248 q16_193 fun T59 X59 e59 => ?_
 refine o_il X59 hx hby q16_196 ?_
 refine o_i2l X59 hx hby q16_197 ?_
 refine o_ladd X59 hx hby q16_198 ?_
 refine o_pF X59 hx hZ hown hby (own_w hw 248 rfl) Via.refl e59 f55 f49 (Or.inl (own_w hw 249 rfl)) (own_w hw 27 rfl) ft_2 q16_199 fun T60 h60 X60 e60 W60 => ?_
 have N60 := Fr.snoc X60 N38 P5
 have Fw60 := f55.same W60
 have f61 := f41.other W60 ne39 ne40
 have f62 := f45.other W60 ne42 ne43 ne44
 have f63 := f47.other W60 ne46
 have f64 := f48.other W60 (Ne.symm ne24)
 have f65 := f49.wr W60
 have f66 := f50.other W60 (Or.inr (sn_90 hw))
 have f67 := f51.other W60 (Or.inr (sn_91 hw))
 have f68 := f52.other W60 (Or.inr (sn_92 hw))
 have f69 := f53.other W60 (Or.inr (sn_93 hw))
 have f70 := f54.other W60 (Or.inr (sn_95 hw))
 have f71 := f56.other W60 (Or.inr (sn_94 hw))
 have f72 := Fw38.other W60 (Or.inr (sn_96 hw))
 have K73 := K57.wr W60 (ow 0 rfl)
 have z74 := Nat.le_trans z58 (Keep.of_wr W60).1
 refine o_al X60 hx hby q16_202 ?_
 refine o_al X60 hx hby q16_203 ?_
 refine o_cV X60 hx hZ hown hw hml hby (rm50 l Z a0 hw [] aE sq h60 n0 z74 (f61.2.1)) (f61.1) e60 250 251 253 252 254 8 1 q16_204 [] [(.ref aH)] pd_25 hy_8 fun v75 T75 L75 hQ75 X75 => ?_
 obtain ⟨rfl, Nq75, eq75⟩ := hQ75
 have N75 := Fr.app N60 Nq75
 refine oV ?_
 refine o_pF X75 hx hZ hown hby (own_w hw 112 rfl) Via.refl eq75 f71 f65 (Or.inl (own_w hw 113 rfl)) (own_w hw 27 rfl) ft_2 q16_207 fun T76 h76 X76 e76 W76 => ?_
 have N76 := Fr.snoc X76 N75 P5
 have Fw76 := f71.same W76
 have f77 := f61.other W76 ne39 ne40
 have f78 := f62.other W76 ne42 ne43 ne44
 have f79 := f63.other W76 ne46
 have f80 := f64.other W76 (Ne.symm ne24)
 have f81 := f65.wr W76
 have f82 := f66.other W76 (Or.inr (sn_97 hw))
 have f83 := f67.other W76 (Or.inr (sn_98 hw))
 have f84 := f68.other W76 (Or.inr (sn_99 hw))
 have f85 := f69.other W76 (Or.inr (sn_100 hw))
 have f86 := f70.other W76 (Or.inr (sn_101 hw))
 have f87 := f72.other W76 (Or.inr (sn_102 hw))
 have f88 := Fw60.other W76 (Or.inr (sn_103 hw))
 have K89 := K73.wr W76 (ow 0 rfl)
 have z90 := Nat.le_trans z74 (Keep.of_wr W76).1
 have := And.intro (c_ladd by_ (n).toInt64) (rng64 (by_ + (n).toInt64))
 exact κ₀ _ _ hd (own_updV f ((hd + (0 : Int32)) % M).toNatClampNeg (.ref aE)) (by_ + (n.toInt64)) (hv + ((n.toInt64) + (128 : Int64))) gq4 (X76.more (by decide) (by decide)) N76 (by rw [e76]; exact K89) (by rw [e76]; exact ⟨f81, f82, f83, f84, f85, f86, f87, f88, Fw76⟩) (by rw [e76]; exact f80) (if_pos (own_eqp (show hd.toInt = ((hd + (0 : Int32)) % M).toInt from by omega))) (by rw [e76]; exact f78) (by rw [e76]; exact f79) p3_2 P12 (show (by_ + (n.toInt64)).toInt = n.toInt from by omega) (show (hv + ((n.toInt64) + (128 : Int64))).toInt = n.toInt + 128 from by omega)
set_option maxRecDepth 65536 in
set_option maxHeartbeats 40000000 in
theorem sg66 (l Z a0) (hw : oW a0 Z) (aH aE : Addr) (M : Int32) (mb : Int64) (aS aG : Addr) (hd : Int32) (by_ ls : Int64) (f : Nat → Value) (aE1 aB1 : Addr) (sq1 : Int64) (n1 : Int32) (aB : Addr) (sq : Int64) (n : Int32) (aR aL : Addr) (bd hv : Int64) (aA : Addr) (g : Nat → Value) (h0 : Heap) (n0 : Nat) (Z0 : n0 ≤ h0.size) (P0 : own_Hi Z h0 aH M mb aS aG hd (1 : Int32) by_ ls) (P1 : own_RE Z h0 aG M f) (P2 : f hd.toNatClampNeg = .ref aE1) (P3 : own_Ev Z h0 aE1 aB1 sq1 n1) (P4 : own_Ev Z h0 aE aB sq n) (P5 : own_Rm Z h0 aR aS aL aA bd hv (0 : Int32) (1 : Int32)) (P6 : own_RO Z h0 aA (10 : Int32) g) (P7 : g (0 : Int32).toNatClampNeg = .ref aS) (P8 : n0 ≤ aH) (P9 : n0 ≤ aG) (P10 : n0 ≤ aR) (P11 : n0 ≤ aS) (P12 : n0 ≤ aL) (P13 : n0 ≤ aA) (P14 : 0 ≤ M.toInt ∧ M.toInt ≤ 7) (P15 : 0 ≤ hd.toInt ∧ hd.toInt < M.toInt) (P16 : 0 ≤ n1.toInt ∧ n1.toInt ≤ 7) (P17 : 0 ≤ n.toInt ∧ n.toInt ≤ 7) (P18 : 0 ≤ mb.toInt) (P19 : by_.toInt = n1.toInt) (P20 : hv.toInt = n1.toInt + 128) (P21 : 2 ≤ M.toInt) (P22 : n1.toInt + n.toInt ≤ mb.toInt) (P23 : bd.toInt < n.toInt + 128)
   (hx : p.tables.exec = Jvm.exec) (hby : c.code = kc16) (hml : c.maxLocals = 4) (hZ : Z.Warmed39 s.vm) (hown : s.vm.findClass "com/example/lockstep/lockstep/session/History" = some m.cls)
   (X0 : Stand p l e own_r7 s m #[(.ref aH), (.ref aE)] below meth c s₁ locs 0 0) (e0 : s₁.heap = h0) (N0 : Fr n0 locs)
   (κ₀ : ∀ (T' : State) (L' : List Loc) (hdq : Int32) (fq : Nat → Value) (byq : Int64) (hvq : Int64) (gq : Nat → Value), Stand p l e own_r7 s m #[(.ref aH), (.ref aE)] below meth c T' L' 2 17 → Fr n0 L' → Keep h0 T'.heap [aH, aG, aR, aS, aL, aA] → (own_Hi Z T'.heap aH M mb aS aG hdq (0 : Int32) byq sq) → (own_RE Z T'.heap aG M fq) → (own_Rm Z T'.heap aR aS aL aA bd hvq (-1 : Int32) (0 : Int32)) → (own_RO Z T'.heap aA (10 : Int32) gq) → (0 ≤ hdq.toInt ∧ hdq.toInt < M.toInt) → (byq.toInt = 0) → (hvq.toInt = 0) → oG p e below F₀ (T'.setTop (mkF m 210 #[vR aH, vR aE, vI n, vI 0] []))) :
   oG p e below F₀ (s₁.setTop (mkF m 73 #[vR aH, vR aE, vI n, vI 1] [])) := by
 refine o_il X0 hx hby q16_73 ?_
 refine o_in X0 hx hby q16_74 ((if0 _ _).trans (feq (by decide)).1) ?_
 refine o_al X0 hx hby q16_77 ?_
 refine o_g X0 hx hZ hown hw hby e0 (P0.2.2.2.1) 105 q16_78 fun T1 X1 e1 => ?_
 refine o_il X1 hx hby q16_81 ?_
 refine o_cS X1 hx hZ hown hw hml hby (rm56 l Z a0 hw [] n  h0 n0 Z0 ) e1 131 132 28 133 1 q16_82 [(.int n)] [(.ref aS)] pd_22 hy_9 fun v2 T2 L2 hQ2 X2 => ?_
 obtain ⟨rfl, Nq2, eq2⟩ := hQ2
 have N2 := Fr.app N0 Nq2
 refine oV ?_
 have := c_i2l n
 have : (128 : Int64).toInt = 128 := (by decide)
 have := And.intro (c_ladd (n).toInt64 (128 : Int64)) (rng64 ((n).toInt64 + (128 : Int64)))
 have := And.intro (c_ladd hv ((n).toInt64 + (128 : Int64))) (rng64 (hv + ((n).toInt64 + (128 : Int64))))
 refine o_cV X2 hx hZ hown hw hml hby (rm45 l Z a0 hw [] aS ((n.toInt64) + (128 : Int64)) aR aL bd hv aA g h0 n0 Z0 P5 P6 P7 (show bd < (hv + ((n.toInt64) + (128 : Int64))) from Int64.lt_iff_toInt_lt.mpr (by omega))) P5.exS eq2 135 136 138 137 139 94 0 q16_85 [(.long ((n.toInt64) + (128 : Int64)))] [] pd_24 hy_10 fun v3 T3 L3 hQ3 X3 => ?_
 obtain ⟨rfl, Nq3, eq3⟩ := hQ3
 have N3 := Fr.app N2 Nq3
 refine oV ?_
 refine o_in X3 hx hby q16_88 ((if0 _ _).trans (teq rfl).2) ?_
 refine o_al X3 hx hby q16_91 ?_
 refine o_g X3 hx hZ hown hw hby eq3 (P0.2.2.2.2.2.2.1) 114 q16_92 fun T4 X4 e4 => ?_
 refine o_in X4 hx hby q16_95 ((if0 _ _).trans (tlt (by decide)).2.2.2) ?_
 refine o_ic X4 hx hby 1 q16_98 ?_
 refine o_gt X4 hx hby q16_99 103 ?_
 refine o_is X4 hx hby q16_103 #[vR aH, vR aE, vI n, vI 1] ?_
 refine o_il X4 hx hby q16_104 ?_
 refine o_in X4 hx hby q16_105 ((if0 _ _).trans (feq (by decide)).1) ?_
 refine o_al X4 hx hby q16_108 ?_
 refine o_cP X4 hx hZ hown hw hml hby (rm60 l Z a0 hw [] aH M mb aS aG hd by_ ls f aE1 aB1 sq1 n1 aR aL aA g bd hv h0 n0 Z0 P0 P1 P2 P3 P5 P6 P7 P8 P9 P10 P11 P12 P13 P14 P15 P16 P19 P20) (P0.1) e4 263 264 27 265 266 28 0 q16_109 [] [] pd_7 hy_9 fun v5 T5 L5 hQ5 X5 => ?_
 obtain ⟨fq6, byq7, hvq8, gq9, rfl, Nq5, Kq5, p5_0, p5_1, p5_2, p5_3, p5_4, p5_5⟩ := hQ5
 have N5 := Fr.app N3 Nq5
 have wx10 : own_exs Z _ [aH, aG, aR, aS, aL, aA] ocl_6 := ⟨(P0.1), P1.exa, P5.exR, P5.exS, P5.exL, P6.exa, trivial⟩
 have ni11 := own_nin (P3.1) wx10 nc_14
 have ni12 := own_nin P3.exB wx10 nc_15
 have f13 := P3.keep Kq5 ni11 ni12
 have ni14 := own_nin (P4.1) wx10 nc_14
 have ni15 := own_nin P4.exB wx10 nc_15
 have f16 := P4.keep Kq5 ni14 ni15
 have K17 := own_ktr (Keep.refl h0 [aH, aG, aR, aS, aL, aA]) Kq5
 have z18 := Nat.le_trans Z0 Kq5.1
 refine oN ?_
 refine o_gt X5 hx hby q16_112 73 ?_
 have : (1 : Int32).toInt = 1 := (by decide)
 have := And.intro (c_iadd hd (1 : Int32)) (rng32 (hd + (1 : Int32)))
 have := c_iremV (hd + (1 : Int32)) M
 refine sg64 l Z a0 hw aH aE M mb aS aG ((hd + (1 : Int32)) % M) byq7 ls fq6 aB sq n aR aL bd hvq8 aA gq9 T5.heap n0 z18 p5_0 p5_1 f16 p5_2 p5_3 P8 P9 P10 P11 P12 P13 P14 (show 0 ≤ ((hd + (1 : Int32)) % M).toInt ∧ ((hd + (1 : Int32)) % M).toInt < M.toInt from by omega) P17 P18 p5_4 p5_5 (show 1 ≤ M.toInt from by omega) (show n.toInt ≤ mb.toInt from by omega) P23 hx hby hml hZ hown X5 rfl N5 (fun T19 L19 hdq20 fq21 byq22 hvq23 gq24 X19 N19 Kq19 p19_0 p19_1 p19_2 p19_3 p19_4 p19_5 p19_6 => ?_)
 have f25 := f13.keep Kq19 ni11 ni12
 have f26 := f16.keep Kq19 ni14 ni15
 have K27 := own_ktr K17 Kq19
 have z28 := Nat.le_trans z18 Kq19.1
 exact κ₀ _ _ hdq20 fq21 byq22 hvq23 gq24 (X19.more (by decide) (by decide)) N19 K27 p19_0 p19_1 p19_2 p19_3 p19_4 p19_5 p19_6
set_option maxRecDepth 65536 in
set_option maxHeartbeats 40000000 in
theorem sg67 (l Z a0) (hw : oW a0 Z) (aH aE : Addr) (M : Int32) (mb : Int64) (aS aG : Addr) (hd : Int32) (by_ ls : Int64) (f : Nat → Value) (aE1 aB1 : Addr) (sq1 : Int64) (n1 : Int32) (aB : Addr) (sq : Int64) (n : Int32) (aR aL : Addr) (bd hv : Int64) (aA : Addr) (g : Nat → Value) (h0 : Heap) (n0 : Nat) (Z0 : n0 ≤ h0.size) (P0 : own_Hi Z h0 aH M mb aS aG hd (1 : Int32) by_ ls) (P1 : own_RE Z h0 aG M f) (P2 : f hd.toNatClampNeg = .ref aE1) (P3 : own_Ev Z h0 aE1 aB1 sq1 n1) (P4 : own_Ev Z h0 aE aB sq n) (P5 : own_Rm Z h0 aR aS aL aA bd hv (0 : Int32) (1 : Int32)) (P6 : own_RO Z h0 aA (10 : Int32) g) (P7 : g (0 : Int32).toNatClampNeg = .ref aS) (P8 : n0 ≤ aH) (P9 : n0 ≤ aG) (P10 : n0 ≤ aR) (P11 : n0 ≤ aS) (P12 : n0 ≤ aL) (P13 : n0 ≤ aA) (P14 : 0 ≤ M.toInt ∧ M.toInt ≤ 7) (P15 : 0 ≤ hd.toInt ∧ hd.toInt < M.toInt) (P16 : 0 ≤ n1.toInt ∧ n1.toInt ≤ 7) (P17 : 0 ≤ n.toInt ∧ n.toInt ≤ 7) (P18 : 0 ≤ mb.toInt) (P19 : by_.toInt = n1.toInt) (P20 : hv.toInt = n1.toInt + 128) (P21 : 2 ≤ M.toInt) (P22 : n1.toInt + n.toInt ≤ mb.toInt) (P23 : n.toInt + 128 ≤ bd.toInt) (P24 : bd.toInt < n1.toInt + n.toInt + 256)
   (hx : p.tables.exec = Jvm.exec) (hby : c.code = kc16) (hml : c.maxLocals = 4) (hZ : Z.Warmed39 s.vm) (hown : s.vm.findClass "com/example/lockstep/lockstep/session/History" = some m.cls)
   (X0 : Stand p l e own_r7 s m #[(.ref aH), (.ref aE)] below meth c s₁ locs 0 0) (e0 : s₁.heap = h0) (N0 : Fr n0 locs)
   (κ₀ : ∀ (T' : State) (L' : List Loc) (hdq : Int32) (fq : Nat → Value) (byq : Int64) (hvq : Int64) (gq : Nat → Value), Stand p l e own_r7 s m #[(.ref aH), (.ref aE)] below meth c T' L' 2 17 → Fr n0 L' → Keep h0 T'.heap [aH, aG, aR, aS, aL, aA] → (own_Hi Z T'.heap aH M mb aS aG hdq (1 : Int32) byq sq) → (own_RE Z T'.heap aG M fq) → (fq hdq.toNatClampNeg = .ref aE) → (own_Rm Z T'.heap aR aS aL aA bd hvq (0 : Int32) (1 : Int32)) → (own_RO Z T'.heap aA (10 : Int32) gq) → (gq (0 : Int32).toNatClampNeg = .ref aS) → (0 ≤ hdq.toInt ∧ hdq.toInt < M.toInt) → (byq.toInt = n.toInt) → (hvq.toInt = n.toInt + 128) → oG p e below F₀ (T'.setTop (mkF m 210 #[vR aH, vR aE, vI n, vI 1] []))) :
   oG p e below F₀ (s₁.setTop (mkF m 73 #[vR aH, vR aE, vI n, vI 1] [])) := by
 refine o_il X0 hx hby q16_73 ?_
 refine o_in X0 hx hby q16_74 ((if0 _ _).trans (feq (by decide)).1) ?_
 refine o_al X0 hx hby q16_77 ?_
 refine o_g X0 hx hZ hown hw hby e0 (P0.2.2.2.1) 105 q16_78 fun T1 X1 e1 => ?_
 refine o_il X1 hx hby q16_81 ?_
 refine o_cS X1 hx hZ hown hw hml hby (rm56 l Z a0 hw [] n  h0 n0 Z0 ) e1 131 132 28 133 1 q16_82 [(.int n)] [(.ref aS)] pd_22 hy_9 fun v2 T2 L2 hQ2 X2 => ?_
 obtain ⟨rfl, Nq2, eq2⟩ := hQ2
 have N2 := Fr.app N0 Nq2
 refine oV ?_
 have := c_i2l n
 have : (128 : Int64).toInt = 128 := (by decide)
 have := And.intro (c_ladd (n).toInt64 (128 : Int64)) (rng64 ((n).toInt64 + (128 : Int64)))
 have := And.intro (c_ladd hv ((n).toInt64 + (128 : Int64))) (rng64 (hv + ((n).toInt64 + (128 : Int64))))
 refine o_cV X2 hx hZ hown hw hml hby (rm45 l Z a0 hw [] aS ((n.toInt64) + (128 : Int64)) aR aL bd hv aA g h0 n0 Z0 P5 P6 P7 (show bd < (hv + ((n.toInt64) + (128 : Int64))) from Int64.lt_iff_toInt_lt.mpr (by omega))) P5.exS eq2 135 136 138 137 139 94 0 q16_85 [(.long ((n.toInt64) + (128 : Int64)))] [] pd_24 hy_10 fun v3 T3 L3 hQ3 X3 => ?_
 obtain ⟨rfl, Nq3, eq3⟩ := hQ3
 have N3 := Fr.app N2 Nq3
 refine oV ?_
 refine o_in X3 hx hby q16_88 ((if0 _ _).trans (teq rfl).2) ?_
 refine o_al X3 hx hby q16_91 ?_
 refine o_g X3 hx hZ hown hw hby eq3 (P0.2.2.2.2.2.2.1) 114 q16_92 fun T4 X4 e4 => ?_
 refine o_in X4 hx hby q16_95 ((if0 _ _).trans (tlt (by decide)).2.2.2) ?_
 refine o_ic X4 hx hby 1 q16_98 ?_
 refine o_gt X4 hx hby q16_99 103 ?_
 refine o_is X4 hx hby q16_103 #[vR aH, vR aE, vI n, vI 1] ?_
 refine o_il X4 hx hby q16_104 ?_
 refine o_in X4 hx hby q16_105 ((if0 _ _).trans (feq (by decide)).1) ?_
 refine o_al X4 hx hby q16_108 ?_
 refine o_cP X4 hx hZ hown hw hml hby (rm60 l Z a0 hw [] aH M mb aS aG hd by_ ls f aE1 aB1 sq1 n1 aR aL aA g bd hv h0 n0 Z0 P0 P1 P2 P3 P5 P6 P7 P8 P9 P10 P11 P12 P13 P14 P15 P16 P19 P20) (P0.1) e4 263 264 27 265 266 28 0 q16_109 [] [] pd_7 hy_9 fun v5 T5 L5 hQ5 X5 => ?_
 obtain ⟨fq6, byq7, hvq8, gq9, rfl, Nq5, Kq5, p5_0, p5_1, p5_2, p5_3, p5_4, p5_5⟩ := hQ5
 have N5 := Fr.app N3 Nq5
 have wx10 : own_exs Z _ [aH, aG, aR, aS, aL, aA] ocl_6 := ⟨(P0.1), P1.exa, P5.exR, P5.exS, P5.exL, P6.exa, trivial⟩
 have ni11 := own_nin (P3.1) wx10 nc_14
 have ni12 := own_nin P3.exB wx10 nc_15
 have f13 := P3.keep Kq5 ni11 ni12
 have ni14 := own_nin (P4.1) wx10 nc_14
 have ni15 := own_nin P4.exB wx10 nc_15
 have f16 := P4.keep Kq5 ni14 ni15
 have K17 := own_ktr (Keep.refl h0 [aH, aG, aR, aS, aL, aA]) Kq5
 have z18 := Nat.le_trans Z0 Kq5.1
 refine oN ?_
 refine o_gt X5 hx hby q16_112 73 ?_
 have : (1 : Int32).toInt = 1 := (by decide)
 have := And.intro (c_iadd hd (1 : Int32)) (rng32 (hd + (1 : Int32)))
 have := c_iremV (hd + (1 : Int32)) M
 refine sg65 l Z a0 hw aH aE M mb aS aG ((hd + (1 : Int32)) % M) byq7 ls fq6 aB sq n aR aL bd hvq8 aA gq9 T5.heap n0 z18 p5_0 p5_1 f16 p5_2 p5_3 P8 P9 P10 P11 P12 P13 P14 (show 0 ≤ ((hd + (1 : Int32)) % M).toInt ∧ ((hd + (1 : Int32)) % M).toInt < M.toInt from by omega) P17 P18 p5_4 p5_5 (show 1 ≤ M.toInt from by omega) (show n.toInt ≤ mb.toInt from by omega) P23 hx hby hml hZ hown X5 rfl N5 (fun T19 L19 hdq20 fq21 byq22 hvq23 gq24 X19 N19 Kq19 p19_0 p19_1 p19_2 p19_3 p19_4 p19_5 p19_6 p19_7 p19_8 => ?_)
 have f25 := f13.keep Kq19 ni11 ni12
 have f26 := f16.keep Kq19 ni14 ni15
 have K27 := own_ktr K17 Kq19
 have z28 := Nat.le_trans z18 Kq19.1
 exact κ₀ _ _ hdq20 fq21 byq22 hvq23 gq24 (X19.more (by decide) (by decide)) N19 K27 p19_0 p19_1 p19_2 p19_3 p19_4 p19_5 p19_6 p19_7 p19_8
set_option maxRecDepth 65536 in
set_option maxHeartbeats 40000000 in
theorem sg68 (l Z a0) (hw : oW a0 Z) (aH aE : Addr) (M : Int32) (mb : Int64) (aS aG : Addr) (hd : Int32) (by_ ls : Int64) (f : Nat → Value) (aE1 aB1 : Addr) (sq1 : Int64) (n1 : Int32) (aB : Addr) (sq : Int64) (n : Int32) (aR aL : Addr) (bd hv : Int64) (aA : Addr) (g : Nat → Value) (h0 : Heap) (n0 : Nat) (Z0 : n0 ≤ h0.size) (P0 : own_Hi Z h0 aH M mb aS aG hd (1 : Int32) by_ ls) (P1 : own_RE Z h0 aG M f) (P2 : f hd.toNatClampNeg = .ref aE1) (P3 : own_Ev Z h0 aE1 aB1 sq1 n1) (P4 : own_Ev Z h0 aE aB sq n) (P5 : own_Rm Z h0 aR aS aL aA bd hv (0 : Int32) (1 : Int32)) (P6 : own_RO Z h0 aA (10 : Int32) g) (P7 : g (0 : Int32).toNatClampNeg = .ref aS) (P8 : n0 ≤ aH) (P9 : n0 ≤ aG) (P10 : n0 ≤ aR) (P11 : n0 ≤ aS) (P12 : n0 ≤ aL) (P13 : n0 ≤ aA) (P14 : 0 ≤ M.toInt ∧ M.toInt ≤ 7) (P15 : 0 ≤ hd.toInt ∧ hd.toInt < M.toInt) (P16 : 0 ≤ n1.toInt ∧ n1.toInt ≤ 7) (P17 : 0 ≤ n.toInt ∧ n.toInt ≤ 7) (P18 : 0 ≤ mb.toInt) (P19 : by_.toInt = n1.toInt) (P20 : hv.toInt = n1.toInt + 128) (P21 : 2 ≤ M.toInt) (P22 : n1.toInt + n.toInt ≤ mb.toInt) (P23 : n1.toInt + n.toInt + 256 ≤ bd.toInt)
   (hx : p.tables.exec = Jvm.exec) (hby : c.code = kc16) (hml : c.maxLocals = 4) (hZ : Z.Warmed39 s.vm) (hown : s.vm.findClass "com/example/lockstep/lockstep/session/History" = some m.cls)
   (X0 : Stand p l e own_r7 s m #[(.ref aH), (.ref aE)] below meth c s₁ locs 0 0) (e0 : s₁.heap = h0) (N0 : Fr n0 locs)
   (κ₀ : ∀ (T' : State) (L' : List Loc) (hdq : Int32) (fq : Nat → Value) (byq : Int64) (hvq : Int64) (gq : Nat → Value), Stand p l e own_r7 s m #[(.ref aH), (.ref aE)] below meth c T' L' 2 17 → Fr n0 L' → Keep h0 T'.heap [aH, aG, aR, aS, aL, aA] → (own_Hi Z T'.heap aH M mb aS aG hdq (2 : Int32) byq sq) → (own_RE Z T'.heap aG M fq) → (fq hdq.toNatClampNeg = .ref aE1) → (fq ((hdq + (1 : Int32)) % M).toNatClampNeg = .ref aE) → (own_Rm Z T'.heap aR aS aL aA bd hvq (0 : Int32) (1 : Int32)) → (own_RO Z T'.heap aA (10 : Int32) gq) → (gq (0 : Int32).toNatClampNeg = .ref aS) → (0 ≤ hdq.toInt ∧ hdq.toInt < M.toInt) → (byq.toInt = n1.toInt + n.toInt) → (hvq.toInt = n1.toInt + n.toInt + 256) → oG p e below F₀ (T'.setTop (mkF m 210 #[vR aH, vR aE, vI n, vI 1] []))) :
   oG p e below F₀ (s₁.setTop (mkF m 73 #[vR aH, vR aE, vI n, vI 1] [])) := by
 refine o_il X0 hx hby q16_73 ?_
 refine o_in X0 hx hby q16_74 ((if0 _ _).trans (feq (by decide)).1) ?_
 refine o_al X0 hx hby q16_77 ?_
 refine o_g X0 hx hZ hown hw hby e0 (P0.2.2.2.1) 105 q16_78 fun T1 X1 e1 => ?_
 refine o_il X1 hx hby q16_81 ?_
 refine o_cS X1 hx hZ hown hw hml hby (rm56 l Z a0 hw [] n  h0 n0 Z0 ) e1 131 132 28 133 1 q16_82 [(.int n)] [(.ref aS)] pd_22 hy_9 fun v2 T2 L2 hQ2 X2 => ?_
 obtain ⟨rfl, Nq2, eq2⟩ := hQ2
 have N2 := Fr.app N0 Nq2
 refine oV ?_
 have := c_i2l n
 have : (128 : Int64).toInt = 128 := (by decide)
 have := And.intro (c_ladd (n).toInt64 (128 : Int64)) (rng64 ((n).toInt64 + (128 : Int64)))
 have := And.intro (c_ladd hv ((n).toInt64 + (128 : Int64))) (rng64 (hv + ((n).toInt64 + (128 : Int64))))
 have : (0 : Int64).toInt = 0 := (by decide)
 refine o_cV X2 hx hZ hown hw hml hby (rm42 l Z a0 hw [] aS ((n.toInt64) + (128 : Int64)) aR aL bd hv aA g h0 n0 Z0 P5 P6 P7 (show ¬ bd < (hv + ((n.toInt64) + (128 : Int64))) from mt Int64.lt_iff_toInt_lt.mp (by omega)) (show (0 : Int64) < (hv + ((n.toInt64) + (128 : Int64))) from Int64.lt_iff_toInt_lt.mpr (by omega)) P10 P11 P12 P13) P5.exS eq2 135 136 138 137 139 94 0 q16_85 [(.long ((n.toInt64) + (128 : Int64)))] [] pd_24 hy_10 fun v3 T3 L3 hQ3 X3 => ?_
 obtain ⟨gq4, rfl, Nq3, Kq3, p3_0, p3_1, p3_2⟩ := hQ3
 have N3 := Fr.app N2 Nq3
 have wx5 : own_exs Z _ [aR, aS, aL, aA] ocl_4 := ⟨P5.exR, P5.exS, P5.exL, P6.exa, trivial⟩
 have ni6 := own_nin (P0.1) wx5 nc_9
 have f7 := P0.keep Kq3 ni6
 have ni8 := own_nin P1.exa wx5 nc_8
 have f9 := P1.keep Kq3 ni8
 have ni10 := own_nin (P3.1) wx5 nc_6
 have ni11 := own_nin P3.exB wx5 nc_7
 have f12 := P3.keep Kq3 ni10 ni11
 have ni13 := own_nin (P4.1) wx5 nc_6
 have ni14 := own_nin P4.exB wx5 nc_7
 have f15 := P4.keep Kq3 ni13 ni14
 have K16 := (Keep.refl h0 [aH, aG, aR, aS, aL, aA]).trans Kq3 (allS (ow 2 rfl) (allS (ow 3 rfl) (allS (ow 4 rfl) (allS (ow 5 rfl) all0))))
 have z17 := Nat.le_trans Z0 Kq3.1
 refine oV ?_
 refine o_iy X3 hx hby q16_88 115 ((if0 _ _).trans (feq (by decide)).2) ?_
 refine o_il X3 hx hby q16_115 ?_
 refine o_in X3 hx hby q16_116 ((if0 _ _).trans (feq (by decide)).1) ?_
 refine o_al X3 hx hby q16_119 ?_
 refine o_g X3 hx hZ hown hw hby rfl (f7.2.2.2.2.2.2.1) 114 q16_120 fun T18 X18 e18 => ?_
 refine o_al X18 hx hby q16_123 ?_
 refine o_g X18 hx hZ hown hw hby e18 (f7.2.2.2.2.1) 77 q16_124 fun T19 X19 e19 => ?_
 refine o_nG X19 hx hZ hby e19 f9 q16_127 ?_
 have : (1 : Int32).toInt = 1 := (by decide)
 refine o_cy X19 hx hby q16_128 160 ((feq (show ¬ ((1 : Int32) = M) from mt (congrArg Int32.toInt) (by omega))).2) ?_
 refine o_al X19 hx hby q16_160 ?_
 refine o_g X19 hx hZ hown hw hby e19 (f7.2.2.2.2.1) 77 q16_161 fun T21 X21 e21 => ?_
 refine o_al X21 hx hby q16_164 ?_
 refine o_g X21 hx hZ hown hw hby e21 (f7.2.2.2.2.2.1) 246 q16_165 fun T22 X22 e22 => ?_
 refine o_al X22 hx hby q16_168 ?_
 refine o_g X22 hx hZ hown hw hby e22 (f7.2.2.2.2.2.2.1) 114 q16_169 fun T23 X23 e23 => ?_
 refine o_iadd X23 hx hby q16_172 ?_
 refine o_al X23 hx hby q16_173 ?_
 refine o_g X23 hx hZ hown hw hby e23 (f7.2.2.2.2.1) 77 q16_174 fun T24 X24 e24 => ?_
 refine o_nG X24 hx hZ hby e24 f9 q16_177 ?_
 have : (0 : Int32).toInt = 0 := (by decide)
 refine oS (fun _ κ => iremM X24 hx rfl (hb hby q16_178) rfl (show ¬ (M = (0 : Int32)) from mt (congrArg Int32.toInt) (by omega)) κ) ?_
 show oG _ _ _ _ (T24.setTop (mkF m 179 #[vR aH, vR aE, vI n, vI 1] [(.int ((hd + (1 : Int32)) % M)), (.ref aG)]))
 refine o_al X24 hx hby q16_179 ?_
 have := And.intro (c_iadd hd (1 : Int32)) (rng32 (hd + (1 : Int32)))
 have := c_iremV (hd + (1 : Int32)) M
 obtain ⟨cl26, Ar26, Sz26, Nz26, Ov26, -⟩ := f9.opened
 have hin26 := inb_of (j := ((hd + (1 : Int32)) % M)) Sz26 ⟨(show ¬ (((hd + (1 : Int32)) % M) < (0 : Int32)) from mt Int32.lt_iff_toInt_lt.mp (by omega)), (show ((hd + (1 : Int32)) % M) < M from Int32.lt_iff_toInt_lt.mpr (by omega))⟩
 obtain ⟨T26, h26, X26, e26, W26, st26⟩ := stR X24 hx hZ e24 Ar26 (j := ((hd + (1 : Int32)) % M)) (v := (.ref aE)) hin26 rfl (Sto.of Ar26 Ov26 (Ins.self (f15.1))) (g := (mkF m 180 #[vR aH, vR aE, vI n, vI 1] [(.ref aE), (.int ((hd + (1 : Int32)) % M)), (.ref aG)])) rfl rfl (hb hby q16_180)
 refine oS st26 ?_
 have N26 := Fr.snoc X26 N3 P9
 have V26 : own_RE Z h26 aG M (own_updV f ((hd + (1 : Int32)) % M).toNatClampNeg (.ref aE)) := f9.set W26 ⟨(show ¬ (((hd + (1 : Int32)) % M) < (0 : Int32)) from mt Int32.lt_iff_toInt_lt.mp (by omega)), (show ((hd + (1 : Int32)) % M) < M from Int32.lt_iff_toInt_lt.mpr (by omega))⟩ rfl
 have ne27 := own_neE (f7.1) f9.exa (Ne.symm ns_8)
 have f28 := f7.other W26 ne27
 have ne29 := own_neE (f12.1) f9.exa (Ne.symm ns_9)
 have ne30 := own_neE f12.exB f9.exa ns_10
 have f31 := f12.other W26 ne29 ne30
 have ne32 := own_neE (f15.1) f9.exa (Ne.symm ns_9)
 have ne33 := own_neE f15.exB f9.exa ns_10
 have f34 := f15.other W26 ne32 ne33
 have ne35 := own_neE p3_0.exR f9.exa (Ne.symm ns_11)
 have ne36 := own_neE p3_0.exS f9.exa (Ne.symm ns_12)
 have ne37 := own_neE p3_0.exL f9.exa (Ne.symm ns_13)
 have f38 := p3_0.other W26 ne35 ne36 ne37
 have ne39 := own_neE p3_1.exa f9.exa (Ne.symm ns_14)
 have f40 := p3_1.other W26 ne39
 have K41 := K16.wr W26 (ow 1 rfl)
 have z42 := Nat.le_trans z17 (Keep.of_wr W26).1
 show oG _ _ _ _ (T26.setTop (mkF m 181 #[vR aH, vR aE, vI n, vI 1] []))
 refine o_al X26 hx hby q16_181 ?_
 refine o_dup X26 hx hby q16_182 ?_
 refine o_g X26 hx hZ hown hw hby e26 (f28.2.2.2.2.2.2.1) 114 q16_183 fun T43 X43 e43 => ?_
 refine o_ic X43 hx hby 1 q16_186 ?_
 refine o_iadd X43 hx hby q16_187 ?_
 rw [show (((1 : Int32) + (1 : Int32)) : Int32) = (2 : Int32) from by decide]
 refine o_pF X43 hx hZ hown hby (own_w hw 114 rfl) Via.refl e43 (f28.2.2.2.2.2.2.1) (f28.1) (Or.inl (own_w hw 115 rfl)) (own_w hw 27 rfl) ft_1 q16_188 fun T44 h44 X44 e44 W44 => ?_
 have N44 := Fr.snoc X44 N26 P8
 have Fw44 := (f28.2.2.2.2.2.2.1).same W44
 have ne45 := own_neE (f31.1) (f28.1) ns_15
 have ne46 := own_neE f31.exB (f28.1) ns_16
 have f47 := f31.other W44 ne45 ne46
 have ne48 := own_neE (f34.1) (f28.1) ns_15
 have ne49 := own_neE f34.exB (f28.1) ns_16
 have f50 := f34.other W44 ne48 ne49
 have ne51 := own_neE f38.exR (f28.1) ns_6
 have ne52 := own_neE f38.exS (f28.1) ns_17
 have ne53 := own_neE f38.exL (f28.1) (Ne.symm ns_7)
 have f54 := f38.other W44 ne51 ne52 ne53
 have ne55 := own_neE f40.exa (f28.1) ns_18
 have f56 := f40.other W44 ne55
 have f57 := V26.other W44 (Ne.symm ne27)
 have f58 := (f28.1).wr W44
 have f59 := (f28.2.1).other W44 (Or.inr (sn_83 hw))
 have f60 := (f28.2.2.1).other W44 (Or.inr (sn_84 hw))
 have f61 := (f28.2.2.2.1).other W44 (Or.inr (sn_85 hw))
 have f62 := (f28.2.2.2.2.1).other W44 (Or.inr (sn_86 hw))
 have f63 := (f28.2.2.2.2.2.1).other W44 (Or.inr (sn_89 hw))
 have f64 := (f28.2.2.2.2.2.2.2.1).other W44 (Or.inr (sn_87 hw))
 have f65 := (f28.2.2.2.2.2.2.2.2).other W44 (Or.inr (sn_88 hw))
 have K66 := K41.wr W44 (ow 0 rfl)
 have z67 := Nat.le_trans z42 (Keep.of_wr W44).1
 refine o_al X44 hx hby q16_191 ?_
 refine o_dup X44 hx hby q16_192 ?_
 refine o_g X44 hx hZ hown hw hby e44 f64 248 q16_193 fun T68 X68 e68 => ?_
 refine o_il X68 hx hby q16_196 ?_
 refine o_i2l X68 hx hby q16_197 ?_
 refine o_ladd X68 hx hby q16_198 ?_
 refine o_pF X68 hx hZ hown hby (own_w hw 248 rfl) Via.refl e68 f64 f58 (Or.inl (own_w hw 249 rfl)) (own_w hw 27 rfl) ft_2 q16_199 fun T69 h69 X69 e69 W69 => ?_
 have N69 := Fr.snoc X69 N44 P8
 have Fw69 := f64.same W69
 have f70 := f47.other W69 ne45 ne46
 have f71 := f50.other W69 ne48 ne49
 have f72 := f54.other W69 ne51 ne52 ne53
 have f73 := f56.other W69 ne55
 have f74 := f57.other W69 (Ne.symm ne27)
 have f75 := f58.wr W69
 have f76 := f59.other W69 (Or.inr (sn_90 hw))
 have f77 := f60.other W69 (Or.inr (sn_91 hw))
 have f78 := f61.other W69 (Or.inr (sn_92 hw))
 have f79 := f62.other W69 (Or.inr (sn_93 hw))
 have f80 := f63.other W69 (Or.inr (sn_95 hw))
 have f81 := f65.other W69 (Or.inr (sn_94 hw))
 have f82 := Fw44.other W69 (Or.inr (sn_96 hw))
 have K83 := K66.wr W69 (ow 0 rfl)
 have z84 := Nat.le_trans z67 (Keep.of_wr W69).1
 refine o_al X69 hx hby q16_202 ?_
 refine o_al X69 hx hby q16_203 ?_
 refine o_cV X69 hx hZ hown hw hml hby (rm50 l Z a0 hw [] aE sq h69 n0 z84 (f71.2.1)) (f71.1) e69 250 251 253 252 254 8 1 q16_204 [] [(.ref aH)] pd_25 hy_8 fun v85 T85 L85 hQ85 X85 => ?_
 obtain ⟨rfl, Nq85, eq85⟩ := hQ85
 have N85 := Fr.app N69 Nq85
 refine oV ?_
 refine o_pF X85 hx hZ hown hby (own_w hw 112 rfl) Via.refl eq85 f81 f75 (Or.inl (own_w hw 113 rfl)) (own_w hw 27 rfl) ft_2 q16_207 fun T86 h86 X86 e86 W86 => ?_
 have N86 := Fr.snoc X86 N85 P8
 have Fw86 := f81.same W86
 have f87 := f70.other W86 ne45 ne46
 have f88 := f71.other W86 ne48 ne49
 have f89 := f72.other W86 ne51 ne52 ne53
 have f90 := f73.other W86 ne55
 have f91 := f74.other W86 (Ne.symm ne27)
 have f92 := f75.wr W86
 have f93 := f76.other W86 (Or.inr (sn_97 hw))
 have f94 := f77.other W86 (Or.inr (sn_98 hw))
 have f95 := f78.other W86 (Or.inr (sn_99 hw))
 have f96 := f79.other W86 (Or.inr (sn_100 hw))
 have f97 := f80.other W86 (Or.inr (sn_101 hw))
 have f98 := f82.other W86 (Or.inr (sn_102 hw))
 have f99 := Fw69.other W86 (Or.inr (sn_103 hw))
 have K100 := K83.wr W86 (ow 0 rfl)
 have z101 := Nat.le_trans z84 (Keep.of_wr W86).1
 have := And.intro (c_ladd by_ (n).toInt64) (rng64 (by_ + (n).toInt64))
 exact κ₀ _ _ hd (own_updV f ((hd + (1 : Int32)) % M).toNatClampNeg (.ref aE)) (by_ + (n.toInt64)) (hv + ((n.toInt64) + (128 : Int64))) gq4 (X86.more (by decide) (by decide)) N86 (by rw [e86]; exact K100) (by rw [e86]; exact ⟨f92, f93, f94, f95, f96, f97, f98, f99, Fw86⟩) (by rw [e86]; exact f91) ((if_neg (own_nep (show 0 ≤ hd.toInt from by omega) (show 0 ≤ ((hd + (1 : Int32)) % M).toInt from by omega) (show ¬ (hd.toInt = ((hd + (1 : Int32)) % M).toInt) from by omega))).trans P2) (if_pos (own_eqp (show ((hd + (1 : Int32)) % M).toInt = ((hd + (1 : Int32)) % M).toInt from by omega))) (by rw [e86]; exact f89) (by rw [e86]; exact f90) p3_2 P15 (show (by_ + (n.toInt64)).toInt = n1.toInt + n.toInt from by omega) (show (hv + ((n.toInt64) + (128 : Int64))).toInt = n1.toInt + n.toInt + 256 from by omega)
set_option maxRecDepth 65536 in
set_option maxHeartbeats 40000000 in
theorem sg69 (l Z a0) (hw : oW a0 Z) (aH aE : Addr) (M : Int32) (mb : Int64) (aS aG : Addr) (hd : Int32) (by_ ls : Int64) (f : Nat → Value) (aE1 aB1 : Addr) (sq1 : Int64) (n1 : Int32) (aE2 aB2 : Addr) (sq2 : Int64) (n2 : Int32) (aB : Addr) (sq : Int64) (n : Int32) (aR aL : Addr) (bd hv : Int64) (aA : Addr) (g : Nat → Value) (h0 : Heap) (n0 : Nat) (Z0 : n0 ≤ h0.size) (P0 : own_Hi Z h0 aH M mb aS aG hd (2 : Int32) by_ ls) (P1 : own_RE Z h0 aG M f) (P2 : f hd.toNatClampNeg = .ref aE1) (P3 : f ((hd + (1 : Int32)) % M).toNatClampNeg = .ref aE2) (P4 : own_Ev Z h0 aE1 aB1 sq1 n1) (P5 : own_Ev Z h0 aE2 aB2 sq2 n2) (P6 : own_Ev Z h0 aE aB sq n) (P7 : own_Rm Z h0 aR aS aL aA bd hv (0 : Int32) (1 : Int32)) (P8 : own_RO Z h0 aA (10 : Int32) g) (P9 : g (0 : Int32).toNatClampNeg = .ref aS) (P10 : n0 ≤ aH) (P11 : n0 ≤ aG) (P12 : n0 ≤ aR) (P13 : n0 ≤ aS) (P14 : n0 ≤ aL) (P15 : n0 ≤ aA) (P16 : 0 ≤ M.toInt ∧ M.toInt ≤ 7) (P17 : 0 ≤ hd.toInt ∧ hd.toInt < M.toInt) (P18 : 0 ≤ n1.toInt ∧ n1.toInt ≤ 7) (P19 : 0 ≤ n2.toInt ∧ n2.toInt ≤ 7) (P20 : 0 ≤ n.toInt ∧ n.toInt ≤ 7) (P21 : 0 ≤ mb.toInt) (P22 : by_.toInt = n1.toInt + n2.toInt) (P23 : hv.toInt = n1.toInt + n2.toInt + 256) (P24 : 3 ≤ M.toInt) (P25 : n1.toInt + n2.toInt + n.toInt ≤ mb.toInt) (P26 : bd.toInt < n.toInt + 128)
   (hx : p.tables.exec = Jvm.exec) (hby : c.code = kc16) (hml : c.maxLocals = 4) (hZ : Z.Warmed39 s.vm) (hown : s.vm.findClass "com/example/lockstep/lockstep/session/History" = some m.cls)
   (X0 : Stand p l e own_r7 s m #[(.ref aH), (.ref aE)] below meth c s₁ locs 0 0) (e0 : s₁.heap = h0) (N0 : Fr n0 locs)
   (κ₀ : ∀ (T' : State) (L' : List Loc) (hdq : Int32) (fq : Nat → Value) (byq : Int64) (hvq : Int64) (gq : Nat → Value), Stand p l e own_r7 s m #[(.ref aH), (.ref aE)] below meth c T' L' 2 17 → Fr n0 L' → Keep h0 T'.heap [aH, aG, aR, aS, aL, aA] → (own_Hi Z T'.heap aH M mb aS aG hdq (0 : Int32) byq sq) → (own_RE Z T'.heap aG M fq) → (own_Rm Z T'.heap aR aS aL aA bd hvq (-1 : Int32) (0 : Int32)) → (own_RO Z T'.heap aA (10 : Int32) gq) → (0 ≤ hdq.toInt ∧ hdq.toInt < M.toInt) → (byq.toInt = 0) → (hvq.toInt = 0) → oG p e below F₀ (T'.setTop (mkF m 210 #[vR aH, vR aE, vI n, vI 0] []))) :
   oG p e below F₀ (s₁.setTop (mkF m 73 #[vR aH, vR aE, vI n, vI 1] [])) := by
 refine o_il X0 hx hby q16_73 ?_
 refine o_in X0 hx hby q16_74 ((if0 _ _).trans (feq (by decide)).1) ?_
 refine o_al X0 hx hby q16_77 ?_
 refine o_g X0 hx hZ hown hw hby e0 (P0.2.2.2.1) 105 q16_78 fun T1 X1 e1 => ?_
 refine o_il X1 hx hby q16_81 ?_
 refine o_cS X1 hx hZ hown hw hml hby (rm56 l Z a0 hw [] n  h0 n0 Z0 ) e1 131 132 28 133 1 q16_82 [(.int n)] [(.ref aS)] pd_22 hy_9 fun v2 T2 L2 hQ2 X2 => ?_
 obtain ⟨rfl, Nq2, eq2⟩ := hQ2
 have N2 := Fr.app N0 Nq2
 refine oV ?_
 have := c_i2l n
 have : (128 : Int64).toInt = 128 := (by decide)
 have := And.intro (c_ladd (n).toInt64 (128 : Int64)) (rng64 ((n).toInt64 + (128 : Int64)))
 have := And.intro (c_ladd hv ((n).toInt64 + (128 : Int64))) (rng64 (hv + ((n).toInt64 + (128 : Int64))))
 refine o_cV X2 hx hZ hown hw hml hby (rm45 l Z a0 hw [] aS ((n.toInt64) + (128 : Int64)) aR aL bd hv aA g h0 n0 Z0 P7 P8 P9 (show bd < (hv + ((n.toInt64) + (128 : Int64))) from Int64.lt_iff_toInt_lt.mpr (by omega))) P7.exS eq2 135 136 138 137 139 94 0 q16_85 [(.long ((n.toInt64) + (128 : Int64)))] [] pd_24 hy_10 fun v3 T3 L3 hQ3 X3 => ?_
 obtain ⟨rfl, Nq3, eq3⟩ := hQ3
 have N3 := Fr.app N2 Nq3
 refine oV ?_
 refine o_in X3 hx hby q16_88 ((if0 _ _).trans (teq rfl).2) ?_
 refine o_al X3 hx hby q16_91 ?_
 refine o_g X3 hx hZ hown hw hby eq3 (P0.2.2.2.2.2.2.1) 114 q16_92 fun T4 X4 e4 => ?_
 refine o_in X4 hx hby q16_95 ((if0 _ _).trans (tlt (by decide)).2.2.2) ?_
 refine o_ic X4 hx hby 1 q16_98 ?_
 refine o_gt X4 hx hby q16_99 103 ?_
 refine o_is X4 hx hby q16_103 #[vR aH, vR aE, vI n, vI 1] ?_
 refine o_il X4 hx hby q16_104 ?_
 refine o_in X4 hx hby q16_105 ((if0 _ _).trans (feq (by decide)).1) ?_
 refine o_al X4 hx hby q16_108 ?_
 refine o_cP X4 hx hZ hown hw hml hby (rm61 l Z a0 hw [] aH M mb aS aG hd by_ ls f aE1 aB1 sq1 n1 aE2 n2 aR aL aA g bd hv h0 n0 Z0 P0 P1 P2 P4 P3 P7 P8 P9 P10 P11 P12 P13 P14 P15 P16 P17 P18 P19 (show 2 ≤ M.toInt from by omega) P22 P23) (P0.1) e4 263 264 27 265 266 28 0 q16_109 [] [] pd_7 hy_9 fun v5 T5 L5 hQ5 X5 => ?_
 obtain ⟨fq6, byq7, hvq8, gq9, rfl, Nq5, Kq5, p5_0, p5_1, p5_2, p5_3, p5_4, p5_5, p5_6, p5_7⟩ := hQ5
 have N5 := Fr.app N3 Nq5
 have wx10 : own_exs Z _ [aH, aG, aR, aS, aL, aA] ocl_6 := ⟨(P0.1), P1.exa, P7.exR, P7.exS, P7.exL, P8.exa, trivial⟩
 have ni11 := own_nin (P4.1) wx10 nc_14
 have ni12 := own_nin P4.exB wx10 nc_15
 have f13 := P4.keep Kq5 ni11 ni12
 have ni14 := own_nin (P5.1) wx10 nc_14
 have ni15 := own_nin P5.exB wx10 nc_15
 have f16 := P5.keep Kq5 ni14 ni15
 have ni17 := own_nin (P6.1) wx10 nc_14
 have ni18 := own_nin P6.exB wx10 nc_15
 have f19 := P6.keep Kq5 ni17 ni18
 have K20 := own_ktr (Keep.refl h0 [aH, aG, aR, aS, aL, aA]) Kq5
 have z21 := Nat.le_trans Z0 Kq5.1
 refine oN ?_
 refine o_gt X5 hx hby q16_112 73 ?_
 have : (1 : Int32).toInt = 1 := (by decide)
 have := And.intro (c_iadd hd (1 : Int32)) (rng32 (hd + (1 : Int32)))
 have := c_iremV (hd + (1 : Int32)) M
 refine sg66 l Z a0 hw aH aE M mb aS aG ((hd + (1 : Int32)) % M) byq7 ls fq6 aE2 aB2 sq2 n2 aB sq n aR aL bd hvq8 aA gq9 T5.heap n0 z21 p5_0 p5_1 p5_2 f16 f19 p5_3 p5_4 p5_5 P10 P11 P12 P13 P14 P15 P16 (show 0 ≤ ((hd + (1 : Int32)) % M).toInt ∧ ((hd + (1 : Int32)) % M).toInt < M.toInt from by omega) P19 P20 P21 p5_6 p5_7 (show 2 ≤ M.toInt from by omega) (show n2.toInt + n.toInt ≤ mb.toInt from by omega) P26 hx hby hml hZ hown X5 rfl N5 (fun T22 L22 hdq23 fq24 byq25 hvq26 gq27 X22 N22 Kq22 p22_0 p22_1 p22_2 p22_3 p22_4 p22_5 p22_6 => ?_)
 have f28 := f13.keep Kq22 ni11 ni12
 have f29 := f16.keep Kq22 ni14 ni15
 have f30 := f19.keep Kq22 ni17 ni18
 have K31 := own_ktr K20 Kq22
 have z32 := Nat.le_trans z21 Kq22.1
 exact κ₀ _ _ hdq23 fq24 byq25 hvq26 gq27 (X22.more (by decide) (by decide)) N22 K31 p22_0 p22_1 p22_2 p22_3 p22_4 p22_5 p22_6
set_option maxRecDepth 65536 in
set_option maxHeartbeats 40000000 in
theorem sg70 (l Z a0) (hw : oW a0 Z) (aH aE : Addr) (M : Int32) (mb : Int64) (aS aG : Addr) (hd : Int32) (by_ ls : Int64) (f : Nat → Value) (aE1 aB1 : Addr) (sq1 : Int64) (n1 : Int32) (aE2 aB2 : Addr) (sq2 : Int64) (n2 : Int32) (aB : Addr) (sq : Int64) (n : Int32) (aR aL : Addr) (bd hv : Int64) (aA : Addr) (g : Nat → Value) (h0 : Heap) (n0 : Nat) (Z0 : n0 ≤ h0.size) (P0 : own_Hi Z h0 aH M mb aS aG hd (2 : Int32) by_ ls) (P1 : own_RE Z h0 aG M f) (P2 : f hd.toNatClampNeg = .ref aE1) (P3 : f ((hd + (1 : Int32)) % M).toNatClampNeg = .ref aE2) (P4 : own_Ev Z h0 aE1 aB1 sq1 n1) (P5 : own_Ev Z h0 aE2 aB2 sq2 n2) (P6 : own_Ev Z h0 aE aB sq n) (P7 : own_Rm Z h0 aR aS aL aA bd hv (0 : Int32) (1 : Int32)) (P8 : own_RO Z h0 aA (10 : Int32) g) (P9 : g (0 : Int32).toNatClampNeg = .ref aS) (P10 : n0 ≤ aH) (P11 : n0 ≤ aG) (P12 : n0 ≤ aR) (P13 : n0 ≤ aS) (P14 : n0 ≤ aL) (P15 : n0 ≤ aA) (P16 : 0 ≤ M.toInt ∧ M.toInt ≤ 7) (P17 : 0 ≤ hd.toInt ∧ hd.toInt < M.toInt) (P18 : 0 ≤ n1.toInt ∧ n1.toInt ≤ 7) (P19 : 0 ≤ n2.toInt ∧ n2.toInt ≤ 7) (P20 : 0 ≤ n.toInt ∧ n.toInt ≤ 7) (P21 : 0 ≤ mb.toInt) (P22 : by_.toInt = n1.toInt + n2.toInt) (P23 : hv.toInt = n1.toInt + n2.toInt + 256) (P24 : 3 ≤ M.toInt) (P25 : n1.toInt + n2.toInt + n.toInt ≤ mb.toInt) (P26 : n.toInt + 128 ≤ bd.toInt) (P27 : bd.toInt < n2.toInt + n.toInt + 256)
   (hx : p.tables.exec = Jvm.exec) (hby : c.code = kc16) (hml : c.maxLocals = 4) (hZ : Z.Warmed39 s.vm) (hown : s.vm.findClass "com/example/lockstep/lockstep/session/History" = some m.cls)
   (X0 : Stand p l e own_r7 s m #[(.ref aH), (.ref aE)] below meth c s₁ locs 0 0) (e0 : s₁.heap = h0) (N0 : Fr n0 locs)
   (κ₀ : ∀ (T' : State) (L' : List Loc) (hdq : Int32) (fq : Nat → Value) (byq : Int64) (hvq : Int64) (gq : Nat → Value), Stand p l e own_r7 s m #[(.ref aH), (.ref aE)] below meth c T' L' 2 17 → Fr n0 L' → Keep h0 T'.heap [aH, aG, aR, aS, aL, aA] → (own_Hi Z T'.heap aH M mb aS aG hdq (1 : Int32) byq sq) → (own_RE Z T'.heap aG M fq) → (fq hdq.toNatClampNeg = .ref aE) → (own_Rm Z T'.heap aR aS aL aA bd hvq (0 : Int32) (1 : Int32)) → (own_RO Z T'.heap aA (10 : Int32) gq) → (gq (0 : Int32).toNatClampNeg = .ref aS) → (0 ≤ hdq.toInt ∧ hdq.toInt < M.toInt) → (byq.toInt = n.toInt) → (hvq.toInt = n.toInt + 128) → oG p e below F₀ (T'.setTop (mkF m 210 #[vR aH, vR aE, vI n, vI 1] []))) :
   oG p e below F₀ (s₁.setTop (mkF m 73 #[vR aH, vR aE, vI n, vI 1] [])) := by
 refine o_il X0 hx hby q16_73 ?_
 refine o_in X0 hx hby q16_74 ((if0 _ _).trans (feq (by decide)).1) ?_
 refine o_al X0 hx hby q16_77 ?_
 refine o_g X0 hx hZ hown hw hby e0 (P0.2.2.2.1) 105 q16_78 fun T1 X1 e1 => ?_
 refine o_il X1 hx hby q16_81 ?_
 refine o_cS X1 hx hZ hown hw hml hby (rm56 l Z a0 hw [] n  h0 n0 Z0 ) e1 131 132 28 133 1 q16_82 [(.int n)] [(.ref aS)] pd_22 hy_9 fun v2 T2 L2 hQ2 X2 => ?_
 obtain ⟨rfl, Nq2, eq2⟩ := hQ2
 have N2 := Fr.app N0 Nq2
 refine oV ?_
 have := c_i2l n
 have : (128 : Int64).toInt = 128 := (by decide)
 have := And.intro (c_ladd (n).toInt64 (128 : Int64)) (rng64 ((n).toInt64 + (128 : Int64)))
 have := And.intro (c_ladd hv ((n).toInt64 + (128 : Int64))) (rng64 (hv + ((n).toInt64 + (128 : Int64))))
 refine o_cV X2 hx hZ hown hw hml hby (rm45 l Z a0 hw [] aS ((n.toInt64) + (128 : Int64)) aR aL bd hv aA g h0 n0 Z0 P7 P8 P9 (show bd < (hv + ((n.toInt64) + (128 : Int64))) from Int64.lt_iff_toInt_lt.mpr (by omega))) P7.exS eq2 135 136 138 137 139 94 0 q16_85 [(.long ((n.toInt64) + (128 : Int64)))] [] pd_24 hy_10 fun v3 T3 L3 hQ3 X3 => ?_
 obtain ⟨rfl, Nq3, eq3⟩ := hQ3
 have N3 := Fr.app N2 Nq3
 refine oV ?_
 refine o_in X3 hx hby q16_88 ((if0 _ _).trans (teq rfl).2) ?_
 refine o_al X3 hx hby q16_91 ?_
 refine o_g X3 hx hZ hown hw hby eq3 (P0.2.2.2.2.2.2.1) 114 q16_92 fun T4 X4 e4 => ?_
 refine o_in X4 hx hby q16_95 ((if0 _ _).trans (tlt (by decide)).2.2.2) ?_
 refine o_ic X4 hx hby 1 q16_98 ?_
 refine o_gt X4 hx hby q16_99 103 ?_
 refine o_is X4 hx hby q16_103 #[vR aH, vR aE, vI n, vI 1] ?_
 refine o_il X4 hx hby q16_104 ?_
 refine o_in X4 hx hby q16_105 ((if0 _ _).trans (feq (by decide)).1) ?_
 refine o_al X4 hx hby q16_108 ?_
 refine o_cP X4 hx hZ hown hw hml hby (rm61 l Z a0 hw [] aH M mb aS aG hd by_ ls f aE1 aB1 sq1 n1 aE2 n2 aR aL aA g bd hv h0 n0 Z0 P0 P1 P2 P4 P3 P7 P8 P9 P10 P11 P12 P13 P14 P15 P16 P17 P18 P19 (show 2 ≤ M.toInt from by omega) P22 P23) (P0.1) e4 263 264 27 265 266 28 0 q16_109 [] [] pd_7 hy_9 fun v5 T5 L5 hQ5 X5 => ?_
 obtain ⟨fq6, byq7, hvq8, gq9, rfl, Nq5, Kq5, p5_0, p5_1, p5_2, p5_3, p5_4, p5_5, p5_6, p5_7⟩ := hQ5
 have N5 := Fr.app N3 Nq5
 have wx10 : own_exs Z _ [aH, aG, aR, aS, aL, aA] ocl_6 := ⟨(P0.1), P1.exa, P7.exR, P7.exS, P7.exL, P8.exa, trivial⟩
 have ni11 := own_nin (P4.1) wx10 nc_14
 have ni12 := own_nin P4.exB wx10 nc_15
 have f13 := P4.keep Kq5 ni11 ni12
 have ni14 := own_nin (P5.1) wx10 nc_14
 have ni15 := own_nin P5.exB wx10 nc_15
 have f16 := P5.keep Kq5 ni14 ni15
 have ni17 := own_nin (P6.1) wx10 nc_14
 have ni18 := own_nin P6.exB wx10 nc_15
 have f19 := P6.keep Kq5 ni17 ni18
 have K20 := own_ktr (Keep.refl h0 [aH, aG, aR, aS, aL, aA]) Kq5
 have z21 := Nat.le_trans Z0 Kq5.1
 refine oN ?_
 refine o_gt X5 hx hby q16_112 73 ?_
 have : (1 : Int32).toInt = 1 := (by decide)
 have := And.intro (c_iadd hd (1 : Int32)) (rng32 (hd + (1 : Int32)))
 have := c_iremV (hd + (1 : Int32)) M
 refine sg67 l Z a0 hw aH aE M mb aS aG ((hd + (1 : Int32)) % M) byq7 ls fq6 aE2 aB2 sq2 n2 aB sq n aR aL bd hvq8 aA gq9 T5.heap n0 z21 p5_0 p5_1 p5_2 f16 f19 p5_3 p5_4 p5_5 P10 P11 P12 P13 P14 P15 P16 (show 0 ≤ ((hd + (1 : Int32)) % M).toInt ∧ ((hd + (1 : Int32)) % M).toInt < M.toInt from by omega) P19 P20 P21 p5_6 p5_7 (show 2 ≤ M.toInt from by omega) (show n2.toInt + n.toInt ≤ mb.toInt from by omega) P26 P27 hx hby hml hZ hown X5 rfl N5 (fun T22 L22 hdq23 fq24 byq25 hvq26 gq27 X22 N22 Kq22 p22_0 p22_1 p22_2 p22_3 p22_4 p22_5 p22_6 p22_7 p22_8 => ?_)
 have f28 := f13.keep Kq22 ni11 ni12
 have f29 := f16.keep Kq22 ni14 ni15
 have f30 := f19.keep Kq22 ni17 ni18
 have K31 := own_ktr K20 Kq22
 have z32 := Nat.le_trans z21 Kq22.1
 exact κ₀ _ _ hdq23 fq24 byq25 hvq26 gq27 (X22.more (by decide) (by decide)) N22 K31 p22_0 p22_1 p22_2 p22_3 p22_4 p22_5 p22_6 p22_7 p22_8
set_option maxRecDepth 65536 in
set_option maxHeartbeats 40000000 in
theorem sg71 (l Z a0) (hw : oW a0 Z) (aH aE : Addr) (M : Int32) (mb : Int64) (aS aG : Addr) (hd : Int32) (by_ ls : Int64) (f : Nat → Value) (aE1 aB1 : Addr) (sq1 : Int64) (n1 : Int32) (aE2 aB2 : Addr) (sq2 : Int64) (n2 : Int32) (aB : Addr) (sq : Int64) (n : Int32) (aR aL : Addr) (bd hv : Int64) (aA : Addr) (g : Nat → Value) (h0 : Heap) (n0 : Nat) (Z0 : n0 ≤ h0.size) (P0 : own_Hi Z h0 aH M mb aS aG hd (2 : Int32) by_ ls) (P1 : own_RE Z h0 aG M f) (P2 : f hd.toNatClampNeg = .ref aE1) (P3 : f ((hd + (1 : Int32)) % M).toNatClampNeg = .ref aE2) (P4 : own_Ev Z h0 aE1 aB1 sq1 n1) (P5 : own_Ev Z h0 aE2 aB2 sq2 n2) (P6 : own_Ev Z h0 aE aB sq n) (P7 : own_Rm Z h0 aR aS aL aA bd hv (0 : Int32) (1 : Int32)) (P8 : own_RO Z h0 aA (10 : Int32) g) (P9 : g (0 : Int32).toNatClampNeg = .ref aS) (P10 : n0 ≤ aH) (P11 : n0 ≤ aG) (P12 : n0 ≤ aR) (P13 : n0 ≤ aS) (P14 : n0 ≤ aL) (P15 : n0 ≤ aA) (P16 : 0 ≤ M.toInt ∧ M.toInt ≤ 7) (P17 : 0 ≤ hd.toInt ∧ hd.toInt < M.toInt) (P18 : 0 ≤ n1.toInt ∧ n1.toInt ≤ 7) (P19 : 0 ≤ n2.toInt ∧ n2.toInt ≤ 7) (P20 : 0 ≤ n.toInt ∧ n.toInt ≤ 7) (P21 : 0 ≤ mb.toInt) (P22 : by_.toInt = n1.toInt + n2.toInt) (P23 : hv.toInt = n1.toInt + n2.toInt + 256) (P24 : 3 ≤ M.toInt) (P25 : n1.toInt + n2.toInt + n.toInt ≤ mb.toInt) (P26 : n2.toInt + n.toInt + 256 ≤ bd.toInt) (P27 : bd.toInt < n1.toInt + n2.toInt + n.toInt + 384)
   (hx : p.tables.exec = Jvm.exec) (hby : c.code = kc16) (hml : c.maxLocals = 4) (hZ : Z.Warmed39 s.vm) (hown : s.vm.findClass "com/example/lockstep/lockstep/session/History" = some m.cls)
   (X0 : Stand p l e own_r7 s m #[(.ref aH), (.ref aE)] below meth c s₁ locs 0 0) (e0 : s₁.heap = h0) (N0 : Fr n0 locs)
   (κ₀ : ∀ (T' : State) (L' : List Loc) (hdq : Int32) (fq : Nat → Value) (byq : Int64) (hvq : Int64) (gq : Nat → Value), Stand p l e own_r7 s m #[(.ref aH), (.ref aE)] below meth c T' L' 2 17 → Fr n0 L' → Keep h0 T'.heap [aH, aG, aR, aS, aL, aA] → (own_Hi Z T'.heap aH M mb aS aG hdq (2 : Int32) byq sq) → (own_RE Z T'.heap aG M fq) → (fq hdq.toNatClampNeg = .ref aE2) → (fq ((hdq + (1 : Int32)) % M).toNatClampNeg = .ref aE) → (own_Rm Z T'.heap aR aS aL aA bd hvq (0 : Int32) (1 : Int32)) → (own_RO Z T'.heap aA (10 : Int32) gq) → (gq (0 : Int32).toNatClampNeg = .ref aS) → (0 ≤ hdq.toInt ∧ hdq.toInt < M.toInt) → (byq.toInt = n2.toInt + n.toInt) → (hvq.toInt = n2.toInt + n.toInt + 256) → oG p e below F₀ (T'.setTop (mkF m 210 #[vR aH, vR aE, vI n, vI 1] []))) :
   oG p e below F₀ (s₁.setTop (mkF m 73 #[vR aH, vR aE, vI n, vI 1] [])) := by
 refine o_il X0 hx hby q16_73 ?_
 refine o_in X0 hx hby q16_74 ((if0 _ _).trans (feq (by decide)).1) ?_
 refine o_al X0 hx hby q16_77 ?_
 refine o_g X0 hx hZ hown hw hby e0 (P0.2.2.2.1) 105 q16_78 fun T1 X1 e1 => ?_
 refine o_il X1 hx hby q16_81 ?_
 refine o_cS X1 hx hZ hown hw hml hby (rm56 l Z a0 hw [] n  h0 n0 Z0 ) e1 131 132 28 133 1 q16_82 [(.int n)] [(.ref aS)] pd_22 hy_9 fun v2 T2 L2 hQ2 X2 => ?_
 obtain ⟨rfl, Nq2, eq2⟩ := hQ2
 have N2 := Fr.app N0 Nq2
 refine oV ?_
 have := c_i2l n
 have : (128 : Int64).toInt = 128 := (by decide)
 have := And.intro (c_ladd (n).toInt64 (128 : Int64)) (rng64 ((n).toInt64 + (128 : Int64)))
 have := And.intro (c_ladd hv ((n).toInt64 + (128 : Int64))) (rng64 (hv + ((n).toInt64 + (128 : Int64))))
 refine o_cV X2 hx hZ hown hw hml hby (rm45 l Z a0 hw [] aS ((n.toInt64) + (128 : Int64)) aR aL bd hv aA g h0 n0 Z0 P7 P8 P9 (show bd < (hv + ((n.toInt64) + (128 : Int64))) from Int64.lt_iff_toInt_lt.mpr (by omega))) P7.exS eq2 135 136 138 137 139 94 0 q16_85 [(.long ((n.toInt64) + (128 : Int64)))] [] pd_24 hy_10 fun v3 T3 L3 hQ3 X3 => ?_
 obtain ⟨rfl, Nq3, eq3⟩ := hQ3
 have N3 := Fr.app N2 Nq3
 refine oV ?_
 refine o_in X3 hx hby q16_88 ((if0 _ _).trans (teq rfl).2) ?_
 refine o_al X3 hx hby q16_91 ?_
 refine o_g X3 hx hZ hown hw hby eq3 (P0.2.2.2.2.2.2.1) 114 q16_92 fun T4 X4 e4 => ?_
 refine o_in X4 hx hby q16_95 ((if0 _ _).trans (tlt (by decide)).2.2.2) ?_
 refine o_ic X4 hx hby 1 q16_98 ?_
 refine o_gt X4 hx hby q16_99 103 ?_
 refine o_is X4 hx hby q16_103 #[vR aH, vR aE, vI n, vI 1] ?_
 refine o_il X4 hx hby q16_104 ?_
 refine o_in X4 hx hby q16_105 ((if0 _ _).trans (feq (by decide)).1) ?_
 refine o_al X4 hx hby q16_108 ?_
 refine o_cP X4 hx hZ hown hw hml hby (rm61 l Z a0 hw [] aH M mb aS aG hd by_ ls f aE1 aB1 sq1 n1 aE2 n2 aR aL aA g bd hv h0 n0 Z0 P0 P1 P2 P4 P3 P7 P8 P9 P10 P11 P12 P13 P14 P15 P16 P17 P18 P19 (show 2 ≤ M.toInt from by omega) P22 P23) (P0.1) e4 263 264 27 265 266 28 0 q16_109 [] [] pd_7 hy_9 fun v5 T5 L5 hQ5 X5 => ?_
 obtain ⟨fq6, byq7, hvq8, gq9, rfl, Nq5, Kq5, p5_0, p5_1, p5_2, p5_3, p5_4, p5_5, p5_6, p5_7⟩ := hQ5
 have N5 := Fr.app N3 Nq5
 have wx10 : own_exs Z _ [aH, aG, aR, aS, aL, aA] ocl_6 := ⟨(P0.1), P1.exa, P7.exR, P7.exS, P7.exL, P8.exa, trivial⟩
 have ni11 := own_nin (P4.1) wx10 nc_14
 have ni12 := own_nin P4.exB wx10 nc_15
 have f13 := P4.keep Kq5 ni11 ni12
 have ni14 := own_nin (P5.1) wx10 nc_14
 have ni15 := own_nin P5.exB wx10 nc_15
 have f16 := P5.keep Kq5 ni14 ni15
 have ni17 := own_nin (P6.1) wx10 nc_14
 have ni18 := own_nin P6.exB wx10 nc_15
 have f19 := P6.keep Kq5 ni17 ni18
 have K20 := own_ktr (Keep.refl h0 [aH, aG, aR, aS, aL, aA]) Kq5
 have z21 := Nat.le_trans Z0 Kq5.1
 refine oN ?_
 refine o_gt X5 hx hby q16_112 73 ?_
 have : (1 : Int32).toInt = 1 := (by decide)
 have := And.intro (c_iadd hd (1 : Int32)) (rng32 (hd + (1 : Int32)))
 have := c_iremV (hd + (1 : Int32)) M
 refine sg68 l Z a0 hw aH aE M mb aS aG ((hd + (1 : Int32)) % M) byq7 ls fq6 aE2 aB2 sq2 n2 aB sq n aR aL bd hvq8 aA gq9 T5.heap n0 z21 p5_0 p5_1 p5_2 f16 f19 p5_3 p5_4 p5_5 P10 P11 P12 P13 P14 P15 P16 (show 0 ≤ ((hd + (1 : Int32)) % M).toInt ∧ ((hd + (1 : Int32)) % M).toInt < M.toInt from by omega) P19 P20 P21 p5_6 p5_7 (show 2 ≤ M.toInt from by omega) (show n2.toInt + n.toInt ≤ mb.toInt from by omega) P26 hx hby hml hZ hown X5 rfl N5 (fun T22 L22 hdq23 fq24 byq25 hvq26 gq27 X22 N22 Kq22 p22_0 p22_1 p22_2 p22_3 p22_4 p22_5 p22_6 p22_7 p22_8 p22_9 => ?_)
 have f28 := f13.keep Kq22 ni11 ni12
 have f29 := f16.keep Kq22 ni14 ni15
 have f30 := f19.keep Kq22 ni17 ni18
 have K31 := own_ktr K20 Kq22
 have z32 := Nat.le_trans z21 Kq22.1
 exact κ₀ _ _ hdq23 fq24 byq25 hvq26 gq27 (X22.more (by decide) (by decide)) N22 K31 p22_0 p22_1 p22_2 p22_3 p22_4 p22_5 p22_6 p22_7 p22_8 p22_9
set_option maxRecDepth 65536 in
set_option maxHeartbeats 40000000 in
theorem sg72 (l Z a0) (hw : oW a0 Z) (aH aE : Addr) (M : Int32) (mb : Int64) (aS aG : Addr) (hd : Int32) (by_ ls : Int64) (f : Nat → Value) (aE1 aB1 : Addr) (sq1 : Int64) (n1 : Int32) (aE2 aB2 : Addr) (sq2 : Int64) (n2 : Int32) (aB : Addr) (sq : Int64) (n : Int32) (aR aL : Addr) (bd hv : Int64) (aA : Addr) (g : Nat → Value) (h0 : Heap) (n0 : Nat) (Z0 : n0 ≤ h0.size) (P0 : own_Hi Z h0 aH M mb aS aG hd (2 : Int32) by_ ls) (P1 : own_RE Z h0 aG M f) (P2 : f hd.toNatClampNeg = .ref aE1) (P3 : f ((hd + (1 : Int32)) % M).toNatClampNeg = .ref aE2) (P4 : own_Ev Z h0 aE1 aB1 sq1 n1) (P5 : own_Ev Z h0 aE2 aB2 sq2 n2) (P6 : own_Ev Z h0 aE aB sq n) (P7 : own_Rm Z h0 aR aS aL aA bd hv (0 : Int32) (1 : Int32)) (P8 : own_RO Z h0 aA (10 : Int32) g) (P9 : g (0 : Int32).toNatClampNeg = .ref aS) (P10 : n0 ≤ aH) (P11 : n0 ≤ aG) (P12 : n0 ≤ aR) (P13 : n0 ≤ aS) (P14 : n0 ≤ aL) (P15 : n0 ≤ aA) (P16 : 0 ≤ M.toInt ∧ M.toInt ≤ 7) (P17 : 0 ≤ hd.toInt ∧ hd.toInt < M.toInt) (P18 : 0 ≤ n1.toInt ∧ n1.toInt ≤ 7) (P19 : 0 ≤ n2.toInt ∧ n2.toInt ≤ 7) (P20 : 0 ≤ n.toInt ∧ n.toInt ≤ 7) (P21 : 0 ≤ mb.toInt) (P22 : by_.toInt = n1.toInt + n2.toInt) (P23 : hv.toInt = n1.toInt + n2.toInt + 256) (P24 : 3 ≤ M.toInt) (P25 : n1.toInt + n2.toInt + n.toInt ≤ mb.toInt) (P26 : n1.toInt + n2.toInt + n.toInt + 384 ≤ bd.toInt)
   (hx : p.tables.exec = Jvm.exec) (hby : c.code = kc16) (hml : c.maxLocals = 4) (hZ : Z.Warmed39 s.vm) (hown : s.vm.findClass "com/example/lockstep/lockstep/session/History" = some m.cls)
   (X0 : Stand p l e own_r7 s m #[(.ref aH), (.ref aE)] below meth c s₁ locs 0 0) (e0 : s₁.heap = h0) (N0 : Fr n0 locs)
   (κ₀ : ∀ (T' : State) (L' : List Loc) (hdq : Int32) (fq : Nat → Value) (byq : Int64) (hvq : Int64) (gq : Nat → Value), Stand p l e own_r7 s m #[(.ref aH), (.ref aE)] below meth c T' L' 2 17 → Fr n0 L' → Keep h0 T'.heap [aH, aG, aR, aS, aL, aA] → (own_Hi Z T'.heap aH M mb aS aG hdq (3 : Int32) byq sq) → (own_RE Z T'.heap aG M fq) → (fq hdq.toNatClampNeg = .ref aE1) → (fq ((hdq + (1 : Int32)) % M).toNatClampNeg = .ref aE2) → (fq ((hdq + (2 : Int32)) % M).toNatClampNeg = .ref aE) → (own_Rm Z T'.heap aR aS aL aA bd hvq (0 : Int32) (1 : Int32)) → (own_RO Z T'.heap aA (10 : Int32) gq) → (gq (0 : Int32).toNatClampNeg = .ref aS) → (0 ≤ hdq.toInt ∧ hdq.toInt < M.toInt) → (byq.toInt = n1.toInt + n2.toInt + n.toInt) → (hvq.toInt = n1.toInt + n2.toInt + n.toInt + 384) → oG p e below F₀ (T'.setTop (mkF m 210 #[vR aH, vR aE, vI n, vI 1] []))) :
   oG p e below F₀ (s₁.setTop (mkF m 73 #[vR aH, vR aE, vI n, vI 1] [])) := by
 refine o_il X0 hx hby q16_73 ?_
 refine o_in X0 hx hby q16_74 ((if0 _ _).trans (feq (by decide)).1) ?_
 refine o_al X0 hx hby q16_77 ?_
 refine o_g X0 hx hZ hown hw hby e0 (P0.2.2.2.1) 105 q16_78 fun T1 X1 e1 => ?_
 refine o_il X1 hx hby q16_81 ?_
 refine o_cS X1 hx hZ hown hw hml hby (rm56 l Z a0 hw [] n  h0 n0 Z0 ) e1 131 132 28 133 1 q16_82 [(.int n)] [(.ref aS)] pd_22 hy_9 fun v2 T2 L2 hQ2 X2 => ?_
 obtain ⟨rfl, Nq2, eq2⟩ := hQ2
 have N2 := Fr.app N0 Nq2
 refine oV ?_
 have := c_i2l n
 have : (128 : Int64).toInt = 128 := (by decide)
 have := And.intro (c_ladd (n).toInt64 (128 : Int64)) (rng64 ((n).toInt64 + (128 : Int64)))
 have := And.intro (c_ladd hv ((n).toInt64 + (128 : Int64))) (rng64 (hv + ((n).toInt64 + (128 : Int64))))
 have : (0 : Int64).toInt = 0 := (by decide)
 refine o_cV X2 hx hZ hown hw hml hby (rm42 l Z a0 hw [] aS ((n.toInt64) + (128 : Int64)) aR aL bd hv aA g h0 n0 Z0 P7 P8 P9 (show ¬ bd < (hv + ((n.toInt64) + (128 : Int64))) from mt Int64.lt_iff_toInt_lt.mp (by omega)) (show (0 : Int64) < (hv + ((n.toInt64) + (128 : Int64))) from Int64.lt_iff_toInt_lt.mpr (by omega)) P12 P13 P14 P15) P7.exS eq2 135 136 138 137 139 94 0 q16_85 [(.long ((n.toInt64) + (128 : Int64)))] [] pd_24 hy_10 fun v3 T3 L3 hQ3 X3 => ?_
 obtain ⟨gq4, rfl, Nq3, Kq3, p3_0, p3_1, p3_2⟩ := hQ3
 have N3 := Fr.app N2 Nq3
 have wx5 : own_exs Z _ [aR, aS, aL, aA] ocl_4 := ⟨P7.exR, P7.exS, P7.exL, P8.exa, trivial⟩
 have ni6 := own_nin (P0.1) wx5 nc_9
 have f7 := P0.keep Kq3 ni6
 have ni8 := own_nin P1.exa wx5 nc_8
 have f9 := P1.keep Kq3 ni8
 have ni10 := own_nin (P4.1) wx5 nc_6
 have ni11 := own_nin P4.exB wx5 nc_7
 have f12 := P4.keep Kq3 ni10 ni11
 have ni13 := own_nin (P5.1) wx5 nc_6
 have ni14 := own_nin P5.exB wx5 nc_7
 have f15 := P5.keep Kq3 ni13 ni14
 have ni16 := own_nin (P6.1) wx5 nc_6
 have ni17 := own_nin P6.exB wx5 nc_7
 have f18 := P6.keep Kq3 ni16 ni17
 have K19 := (Keep.refl h0 [aH, aG, aR, aS, aL, aA]).trans Kq3 (allS (ow 2 rfl) (allS (ow 3 rfl) (allS (ow 4 rfl) (allS (ow 5 rfl) all0))))
 have z20 := Nat.le_trans Z0 Kq3.1
 refine oV ?_
 refine o_iy X3 hx hby q16_88 115 ((if0 _ _).trans (feq (by decide)).2) ?_
 refine o_il X3 hx hby q16_115 ?_
 refine o_in X3 hx hby q16_116 ((if0 _ _).trans (feq (by decide)).1) ?_
 refine o_al X3 hx hby q16_119 ?_
 refine o_g X3 hx hZ hown hw hby rfl (f7.2.2.2.2.2.2.1) 114 q16_120 fun T21 X21 e21 => ?_
 refine o_al X21 hx hby q16_123 ?_
 refine o_g X21 hx hZ hown hw hby e21 (f7.2.2.2.2.1) 77 q16_124 fun T22 X22 e22 => ?_
 refine o_nG X22 hx hZ hby e22 f9 q16_127 ?_
 have : (2 : Int32).toInt = 2 := (by decide)
 refine o_cy X22 hx hby q16_128 160 ((feq (show ¬ ((2 : Int32) = M) from mt (congrArg Int32.toInt) (by omega))).2) ?_
 refine o_al X22 hx hby q16_160 ?_
 refine o_g X22 hx hZ hown hw hby e22 (f7.2.2.2.2.1) 77 q16_161 fun T24 X24 e24 => ?_
 refine o_al X24 hx hby q16_164 ?_
 refine o_g X24 hx hZ hown hw hby e24 (f7.2.2.2.2.2.1) 246 q16_165 fun T25 X25 e25 => ?_
 refine o_al X25 hx hby q16_168 ?_
 refine o_g X25 hx hZ hown hw hby e25 (f7.2.2.2.2.2.2.1) 114 q16_169 fun T26 X26 e26 => ?_
 refine o_iadd X26 hx hby q16_172 ?_
 refine o_al X26 hx hby q16_173 ?_
 refine o_g X26 hx hZ hown hw hby e26 (f7.2.2.2.2.1) 77 q16_174 fun T27 X27 e27 => ?_
 refine o_nG X27 hx hZ hby e27 f9 q16_177 ?_
 have : (0 : Int32).toInt = 0 := (by decide)
 refine oS (fun _ κ => iremM X27 hx rfl (hb hby q16_178) rfl (show ¬ (M = (0 : Int32)) from mt (congrArg Int32.toInt) (by omega)) κ) ?_
 show oG _ _ _ _ (T27.setTop (mkF m 179 #[vR aH, vR aE, vI n, vI 1] [(.int ((hd + (2 : Int32)) % M)), (.ref aG)]))
 refine o_al X27 hx hby q16_179 ?_
 have := And.intro (c_iadd hd (2 : Int32)) (rng32 (hd + (2 : Int32)))
 have := c_iremV (hd + (2 : Int32)) M
 obtain ⟨cl29, Ar29, Sz29, Nz29, Ov29, -⟩ := f9.opened
 have hin29 := inb_of (j := ((hd + (2 : Int32)) % M)) Sz29 ⟨(show ¬ (((hd + (2 : Int32)) % M) < (0 : Int32)) from mt Int32.lt_iff_toInt_lt.mp (by omega)), (show ((hd + (2 : Int32)) % M) < M from Int32.lt_iff_toInt_lt.mpr (by omega))⟩
 obtain ⟨T29, h29, X29, e29, W29, st29⟩ := stR X27 hx hZ e27 Ar29 (j := ((hd + (2 : Int32)) % M)) (v := (.ref aE)) hin29 rfl (Sto.of Ar29 Ov29 (Ins.self (f18.1))) (g := (mkF m 180 #[vR aH, vR aE, vI n, vI 1] [(.ref aE), (.int ((hd + (2 : Int32)) % M)), (.ref aG)])) rfl rfl (hb hby q16_180)
 refine oS st29 ?_
 have N29 := Fr.snoc X29 N3 P11
 have V29 : own_RE Z h29 aG M (own_updV f ((hd + (2 : Int32)) % M).toNatClampNeg (.ref aE)) := f9.set W29 ⟨(show ¬ (((hd + (2 : Int32)) % M) < (0 : Int32)) from mt Int32.lt_iff_toInt_lt.mp (by omega)), (show ((hd + (2 : Int32)) % M) < M from Int32.lt_iff_toInt_lt.mpr (by omega))⟩ rfl
 have ne30 := own_neE (f7.1) f9.exa (Ne.symm ns_8)
 have f31 := f7.other W29 ne30
 have ne32 := own_neE (f12.1) f9.exa (Ne.symm ns_9)
 have ne33 := own_neE f12.exB f9.exa ns_10
 have f34 := f12.other W29 ne32 ne33
 have ne35 := own_neE (f15.1) f9.exa (Ne.symm ns_9)
 have ne36 := own_neE f15.exB f9.exa ns_10
 have f37 := f15.other W29 ne35 ne36
 have ne38 := own_neE (f18.1) f9.exa (Ne.symm ns_9)
 have ne39 := own_neE f18.exB f9.exa ns_10
 have f40 := f18.other W29 ne38 ne39
 have ne41 := own_neE p3_0.exR f9.exa (Ne.symm ns_11)
 have ne42 := own_neE p3_0.exS f9.exa (Ne.symm ns_12)
 have ne43 := own_neE p3_0.exL f9.exa (Ne.symm ns_13)
 have f44 := p3_0.other W29 ne41 ne42 ne43
 have ne45 := own_neE p3_1.exa f9.exa (Ne.symm ns_14)
 have f46 := p3_1.other W29 ne45
 have K47 := K19.wr W29 (ow 1 rfl)
 have z48 := Nat.le_trans z20 (Keep.of_wr W29).1
 show oG _ _ _ _ (T29.setTop (mkF m 181 #[vR aH, vR aE, vI n, vI 1] []))
 refine o_al X29 hx hby q16_181 ?_
 refine o_dup X29 hx hby q16_182 ?_
 refine o_g X29 hx hZ hown hw hby e29 (f31.2.2.2.2.2.2.1) 114 q16_183 fun T49 X49 e49 => ?_
 refine o_ic X49 hx hby 1 q16_186 ?_
 refine o_iadd X49 hx hby q16_187 ?_
 rw [show (((2 : Int32) + (1 : Int32)) : Int32) = (3 : Int32) from by decide]
 refine o_pF X49 hx hZ hown hby (own_w hw 114 rfl) Via.refl e49 (f31.2.2.2.2.2.2.1) (f31.1) (Or.inl (own_w hw 115 rfl)) (own_w hw 27 rfl) ft_1 q16_188 fun T50 h50 X50 e50 W50 => ?_
 have N50 := Fr.snoc X50 N29 P10
 have Fw50 := (f31.2.2.2.2.2.2.1).same W50
 have ne51 := own_neE (f34.1) (f31.1) ns_15
 have ne52 := own_neE f34.exB (f31.1) ns_16
 have f53 := f34.other W50 ne51 ne52
 have ne54 := own_neE (f37.1) (f31.1) ns_15
 have ne55 := own_neE f37.exB (f31.1) ns_16
 have f56 := f37.other W50 ne54 ne55
 have ne57 := own_neE (f40.1) (f31.1) ns_15
 have ne58 := own_neE f40.exB (f31.1) ns_16
 have f59 := f40.other W50 ne57 ne58
 have ne60 := own_neE f44.exR (f31.1) ns_6
 have ne61 := own_neE f44.exS (f31.1) ns_17
 have ne62 := own_neE f44.exL (f31.1) (Ne.symm ns_7)
 have f63 := f44.other W50 ne60 ne61 ne62
 have ne64 := own_neE f46.exa (f31.1) ns_18
 have f65 := f46.other W50 ne64
 have f66 := V29.other W50 (Ne.symm ne30)
 have f67 := (f31.1).wr W50
 have f68 := (f31.2.1).other W50 (Or.inr (sn_83 hw))
 have f69 := (f31.2.2.1).other W50 (Or.inr (sn_84 hw))
 have f70 := (f31.2.2.2.1).other W50 (Or.inr (sn_85 hw))
 have f71 := (f31.2.2.2.2.1).other W50 (Or.inr (sn_86 hw))
 have f72 := (f31.2.2.2.2.2.1).other W50 (Or.inr (sn_89 hw))
 have f73 := (f31.2.2.2.2.2.2.2.1).other W50 (Or.inr (sn_87 hw))
 have f74 := (f31.2.2.2.2.2.2.2.2).other W50 (Or.inr (sn_88 hw))
 have K75 := K47.wr W50 (ow 0 rfl)
 have z76 := Nat.le_trans z48 (Keep.of_wr W50).1
 refine o_al X50 hx hby q16_191 ?_
 refine o_dup X50 hx hby q16_192 ?_
 refine o_g X50 hx hZ hown hw hby e50 f73 248 q16_193 fun T77 X77 e77 => ?_
 refine o_il X77 hx hby q16_196 ?_
 refine o_i2l X77 hx hby q16_197 ?_
 refine o_ladd X77 hx hby q16_198 ?_
 refine o_pF X77 hx hZ hown hby (own_w hw 248 rfl) Via.refl e77 f73 f67 (Or.inl (own_w hw 249 rfl)) (own_w hw 27 rfl) ft_2 q16_199 fun T78 h78 X78 e78 W78 => ?_
 have N78 := Fr.snoc X78 N50 P10
 have Fw78 := f73.same W78
 have f79 := f53.other W78 ne51 ne52
 have f80 := f56.other W78 ne54 ne55
 have f81 := f59.other W78 ne57 ne58
 have f82 := f63.other W78 ne60 ne61 ne62
 have f83 := f65.other W78 ne64
 have f84 := f66.other W78 (Ne.symm ne30)
 have f85 := f67.wr W78
 have f86 := f68.other W78 (Or.inr (sn_90 hw))
 have f87 := f69.other W78 (Or.inr (sn_91 hw))
 have f88 := f70.other W78 (Or.inr (sn_92 hw))
 have f89 := f71.other W78 (Or.inr (sn_93 hw))
 have f90 := f72.other W78 (Or.inr (sn_95 hw))
 have f91 := f74.other W78 (Or.inr (sn_94 hw))
 have f92 := Fw50.other W78 (Or.inr (sn_96 hw))
 have K93 := K75.wr W78 (ow 0 rfl)
 have z94 := Nat.le_trans z76 (Keep.of_wr W78).1
 refine o_al X78 hx hby q16_202 ?_
 refine o_al X78 hx hby q16_203 ?_
 refine o_cV X78 hx hZ hown hw hml hby (rm50 l Z a0 hw [] aE sq h78 n0 z94 (f81.2.1)) (f81.1) e78 250 251 253 252 254 8 1 q16_204 [] [(.ref aH)] pd_25 hy_8 fun v95 T95 L95 hQ95 X95 => ?_
 obtain ⟨rfl, Nq95, eq95⟩ := hQ95
 have N95 := Fr.app N78 Nq95
 refine oV ?_
 refine o_pF X95 hx hZ hown hby (own_w hw 112 rfl) Via.refl eq95 f91 f85 (Or.inl (own_w hw 113 rfl)) (own_w hw 27 rfl) ft_2 q16_207 fun T96 h96 X96 e96 W96 => ?_
 have N96 := Fr.snoc X96 N95 P10
 have Fw96 := f91.same W96
 have f97 := f79.other W96 ne51 ne52
 have f98 := f80.other W96 ne54 ne55
 have f99 := f81.other W96 ne57 ne58
 have f100 := f82.other W96 ne60 ne61 ne62
 have f101 := f83.other W96 ne64
 have f102 := f84.other W96 (Ne.symm ne30)
 have f103 := f85.wr W96
 have f104 := f86.other W96 (Or.inr (sn_97 hw))
 have f105 := f87.other W96 (Or.inr (sn_98 hw))
 have f106 := f88.other W96 (Or.inr (sn_99 hw))
 have f107 := f89.other W96 (Or.inr (sn_100 hw))
 have f108 := f90.other W96 (Or.inr (sn_101 hw))
 have f109 := f92.other W96 (Or.inr (sn_102 hw))
 have f110 := Fw78.other W96 (Or.inr (sn_103 hw))
 have K111 := K93.wr W96 (ow 0 rfl)
 have z112 := Nat.le_trans z94 (Keep.of_wr W96).1
 have : (1 : Int32).toInt = 1 := (by decide)
 have := And.intro (c_iadd hd (1 : Int32)) (rng32 (hd + (1 : Int32)))
 have := c_iremV (hd + (1 : Int32)) M
 have := And.intro (c_ladd by_ (n).toInt64) (rng64 (by_ + (n).toInt64))
 exact κ₀ _ _ hd (own_updV f ((hd + (2 : Int32)) % M).toNatClampNeg (.ref aE)) (by_ + (n.toInt64)) (hv + ((n.toInt64) + (128 : Int64))) gq4 (X96.more (by decide) (by decide)) N96 (by rw [e96]; exact K111) (by rw [e96]; exact ⟨f103, f104, f105, f106, f107, f108, f109, f110, Fw96⟩) (by rw [e96]; exact f102) ((if_neg (own_nep (show 0 ≤ hd.toInt from by omega) (show 0 ≤ ((hd + (2 : Int32)) % M).toInt from by omega) (show ¬ (hd.toInt = ((hd + (2 : Int32)) % M).toInt) from by omega))).trans P2) ((if_neg (own_nep (show 0 ≤ ((hd + (1 : Int32)) % M).toInt from by omega) (show 0 ≤ ((hd + (2 : Int32)) % M).toInt from by omega) (show ¬ (((hd + (1 : Int32)) % M).toInt = ((hd + (2 : Int32)) % M).toInt) from by omega))).trans P3) (if_pos (own_eqp (show ((hd + (2 : Int32)) % M).toInt = ((hd + (2 : Int32)) % M).toInt from by omega))) (by rw [e96]; exact f100) (by rw [e96]; exact f101) p3_2 P17 (show (by_ + (n.toInt64)).toInt = n1.toInt + n2.toInt + n.toInt from by omega) (show (hv + ((n.toInt64) + (128 : Int64))).toInt = n1.toInt + n2.toInt + n.toInt + 384 from by omega)
set_option maxRecDepth 65536 in
set_option maxHeartbeats 40000000 in
theorem sg73 (l Z a0) (hw : oW a0 Z) (aH aE : Addr) (M : Int32) (mb : Int64) (aS aG : Addr) (hd : Int32) (by_ ls : Int64) (f : Nat → Value) (aB : Addr) (sq : Int64) (n : Int32) (aR aL : Addr) (bd hv : Int64) (aA : Addr) (g : Nat → Value) (h0 : Heap) (n0 : Nat) (Z0 : n0 ≤ h0.size) (P0 : own_Hi Z h0 aH M mb aS aG hd (0 : Int32) by_ ls) (P1 : own_RE Z h0 aG M f) (P2 : own_Ev Z h0 aE aB sq n) (P3 : own_Rm Z h0 aR aS aL aA bd hv (-1 : Int32) (0 : Int32)) (P4 : own_RO Z h0 aA (10 : Int32) g) (P5 : n0 ≤ aH) (P6 : n0 ≤ aG) (P7 : n0 ≤ aR) (P8 : n0 ≤ aS) (P9 : n0 ≤ aL) (P10 : n0 ≤ aA) (P11 : 0 ≤ M.toInt ∧ M.toInt ≤ 7) (P12 : 0 ≤ hd.toInt ∧ hd.toInt < M.toInt) (P13 : 0 ≤ n.toInt ∧ n.toInt ≤ 7) (P14 : 0 ≤ mb.toInt) (P15 : by_.toInt = 0) (P16 : hv.toInt = 0) (P17 : ¬ (1 ≤ M.toInt ∧ n.toInt ≤ mb.toInt ∧ n.toInt + 128 ≤ bd.toInt))
   (hx : p.tables.exec = Jvm.exec) (hby : c.code = kc16) (hml : c.maxLocals = 4) (hZ : Z.Warmed39 s.vm) (hown : s.vm.findClass "com/example/lockstep/lockstep/session/History" = some m.cls)
   (X0 : Stand p l e own_r7 s m #[(.ref aH), (.ref aE)] below meth c s₁ locs 0 0) (e0 : s₁.heap = h0) (N0 : Fr n0 locs)
   (κ₀ : ∀ (T' : State) (L' : List Loc) (hdq : Int32) (fq : Nat → Value) (byq : Int64) (hvq : Int64) (gq : Nat → Value), Stand p l e own_r7 s m #[(.ref aH), (.ref aE)] below meth c T' L' 2 17 → Fr n0 L' → Keep h0 T'.heap [aH, aG, aR, aS, aL, aA] → (own_Hi Z T'.heap aH M mb aS aG hdq (0 : Int32) byq sq) → (own_RE Z T'.heap aG M fq) → (own_Rm Z T'.heap aR aS aL aA bd hvq (-1 : Int32) (0 : Int32)) → (own_RO Z T'.heap aA (10 : Int32) gq) → (0 ≤ hdq.toInt ∧ hdq.toInt < M.toInt) → (byq.toInt = 0) → (hvq.toInt = 0) → oG p e below F₀ (T'.setTop (mkF m 210 #[vR aH, vR aE, vI n, vI 0] []))) :
   oG p e below F₀ (s₁.setTop (mkF m 6 #[vR aH, vR aE, vI n, .unset] [])) := by
 refine o_al X0 hx hby q16_6 ?_
 refine o_g X0 hx hZ hown hw hby e0 (P0.2.2.2.2.2.2.1) 114 q16_7 fun T1 X1 e1 => ?_
 refine o_iy X1 hx hby q16_10 46 ((if0 _ _).trans (flt (by decide)).2.2.2) ?_
 refine o_al X1 hx hby q16_46 ?_
 refine o_g X1 hx hZ hown hw hby e1 (P0.2.2.2.2.2.2.1) 114 q16_47 fun T2 X2 e2 => ?_
 refine o_al X2 hx hby q16_50 ?_
 refine o_g X2 hx hZ hown hw hby e2 (P0.2.1) 79 q16_51 fun T3 X3 e3 => ?_
 have : (0 : Int32).toInt = 0 := (by decide)
 refine o_cn X3 hx hby q16_54 ((tlt (show (0 : Int32) < M from Int32.lt_iff_toInt_lt.mpr (by omega))).2.1) ?_
 refine o_il X3 hx hby q16_57 ?_
 refine o_i2l X3 hx hby q16_58 ?_
 refine o_al X3 hx hby q16_59 ?_
 refine o_g X3 hx hZ hown hw hby e3 (P0.2.2.1) 81 q16_60 fun T4 X4 e4 => ?_
 refine o_lcmp X4 hx hby q16_63 ?_
 by_cases hc5 : mb < (n.toInt64)
 · refine o_iy X4 hx hby q16_64 71 ((if0 _ _).trans (tlt ((lw_gt _ _).mpr hc5)).2.2.1) ?_
   refine o_ic X4 hx hby 0 q16_71 ?_
   refine o_is X4 hx hby q16_72 #[vR aH, vR aE, vI n, vI 0] ?_
   refine o_il X4 hx hby q16_73 ?_
   refine o_iy X4 hx hby q16_74 115 ((if0 _ _).trans (teq rfl).1) ?_
   refine o_il X4 hx hby q16_115 ?_
   refine o_iy X4 hx hby q16_116 202 ((if0 _ _).trans (teq rfl).1) ?_
   refine o_al X4 hx hby q16_202 ?_
   refine o_al X4 hx hby q16_203 ?_
   refine o_cV X4 hx hZ hown hw hml hby (rm50 l Z a0 hw [] aE sq h0 n0 Z0 (P2.2.1)) (P2.1) e4 250 251 253 252 254 8 1 q16_204 [] [(.ref aH)] pd_25 hy_8 fun v6 T6 L6 hQ6 X6 => ?_
   obtain ⟨rfl, Nq6, eq6⟩ := hQ6
   have N6 := Fr.app N0 Nq6
   refine oV ?_
   refine o_pF X6 hx hZ hown hby (own_w hw 112 rfl) Via.refl eq6 (P0.2.2.2.2.2.2.2.2) (P0.1) (Or.inl (own_w hw 113 rfl)) (own_w hw 27 rfl) ft_2 q16_207 fun T7 h7 X7 e7 W7 => ?_
   have N7 := Fr.snoc X7 N6 P5
   have Fw7 := (P0.2.2.2.2.2.2.2.2).same W7
   have ne8 := own_neE P1.exa (P0.1) ns_8
   have f9 := P1.other W7 ne8
   have ne10 := own_neE (P2.1) (P0.1) ns_15
   have ne11 := own_neE P2.exB (P0.1) ns_16
   have f12 := P2.other W7 ne10 ne11
   have ne13 := own_neE P3.exR (P0.1) ns_6
   have ne14 := own_neE P3.exS (P0.1) ns_17
   have ne15 := own_neE P3.exL (P0.1) (Ne.symm ns_7)
   have f16 := P3.other W7 ne13 ne14 ne15
   have ne17 := own_neE P4.exa (P0.1) ns_18
   have f18 := P4.other W7 ne17
   have f19 := (P0.1).wr W7
   have f20 := (P0.2.1).other W7 (Or.inr (sn_97 hw))
   have f21 := (P0.2.2.1).other W7 (Or.inr (sn_98 hw))
   have f22 := (P0.2.2.2.1).other W7 (Or.inr (sn_99 hw))
   have f23 := (P0.2.2.2.2.1).other W7 (Or.inr (sn_100 hw))
   have f24 := (P0.2.2.2.2.2.1).other W7 (Or.inr (sn_101 hw))
   have f25 := (P0.2.2.2.2.2.2.1).other W7 (Or.inr (sn_102 hw))
   have f26 := (P0.2.2.2.2.2.2.2.1).other W7 (Or.inr (sn_103 hw))
   have K27 := (Keep.refl h0 [aH, aG, aR, aS, aL, aA]).wr W7 (ow 0 rfl)
   have z28 := Nat.le_trans Z0 (Keep.of_wr W7).1
   exact κ₀ _ _ hd f by_ hv g (X7.more (by decide) (by decide)) N7 (by rw [e7]; exact K27) (by rw [e7]; exact ⟨f19, f20, f21, f22, f23, f24, f25, f26, Fw7⟩) (by rw [e7]; exact f9) (by rw [e7]; exact f16) (by rw [e7]; exact f18) P12 P15 P16
 · refine o_in X4 hx hby q16_64 ((if0 _ _).trans (flt (fun q => absurd ((lw_gt _ _).mp q) hc5)).2.2.1) ?_
   refine o_ic X4 hx hby 1 q16_67 ?_
   refine o_gt X4 hx hby q16_68 72 ?_
   refine o_is X4 hx hby q16_72 #[vR aH, vR aE, vI n, vI 1] ?_
   have := (mt Int64.lt_iff_toInt_lt.mpr hc5)
   have := c_i2l n
   refine sg64 l Z a0 hw aH aE M mb aS aG hd by_ ls f aB sq n aR aL bd hv aA g h0 n0 Z0 P0 P1 P2 P3 P4 P5 P6 P7 P8 P9 P10 P11 P12 P13 P14 P15 P16 (show 1 ≤ M.toInt from by omega) (show n.toInt ≤ mb.toInt from by omega) (show bd.toInt < n.toInt + 128 from by omega) hx hby hml hZ hown X4 e4 N0 (fun T29 L29 hdq30 fq31 byq32 hvq33 gq34 X29 N29 Kq29 p29_0 p29_1 p29_2 p29_3 p29_4 p29_5 p29_6 => ?_)
   have wx35 : own_exs Z _ [aH, aG, aR, aS, aL, aA] ocl_6 := ⟨(P0.1), P1.exa, P3.exR, P3.exS, P3.exL, P4.exa, trivial⟩
   have ni36 := own_nin (P2.1) wx35 nc_14
   have ni37 := own_nin P2.exB wx35 nc_15
   have f38 := P2.keep Kq29 ni36 ni37
   have K39 := own_ktr (Keep.refl h0 [aH, aG, aR, aS, aL, aA]) Kq29
   have z40 := Nat.le_trans Z0 Kq29.1
   exact κ₀ _ _ hdq30 fq31 byq32 hvq33 gq34 (X29.more (by decide) (by decide)) N29 K39 p29_0 p29_1 p29_2 p29_3 p29_4 p29_5 p29_6
set_option maxRecDepth 65536 in
set_option maxHeartbeats 40000000 in
theorem sg74 (l Z a0) (hw : oW a0 Z) (aH aE : Addr) (M : Int32) (mb : Int64) (aS aG : Addr) (hd : Int32) (by_ ls : Int64) (f : Nat → Value) (aB : Addr) (sq : Int64) (n : Int32) (aR aL : Addr) (bd hv : Int64) (aA : Addr) (g : Nat → Value) (h0 : Heap) (n0 : Nat) (Z0 : n0 ≤ h0.size) (P0 : own_Hi Z h0 aH M mb aS aG hd (0 : Int32) by_ ls) (P1 : own_RE Z h0 aG M f) (P2 : own_Ev Z h0 aE aB sq n) (P3 : own_Rm Z h0 aR aS aL aA bd hv (-1 : Int32) (0 : Int32)) (P4 : own_RO Z h0 aA (10 : Int32) g) (P5 : n0 ≤ aH) (P6 : n0 ≤ aG) (P7 : n0 ≤ aR) (P8 : n0 ≤ aS) (P9 : n0 ≤ aL) (P10 : n0 ≤ aA) (P11 : 0 ≤ M.toInt ∧ M.toInt ≤ 7) (P12 : 0 ≤ hd.toInt ∧ hd.toInt < M.toInt) (P13 : 0 ≤ n.toInt ∧ n.toInt ≤ 7) (P14 : 0 ≤ mb.toInt) (P15 : by_.toInt = 0) (P16 : hv.toInt = 0) (P17 : (1 ≤ M.toInt ∧ n.toInt ≤ mb.toInt ∧ n.toInt + 128 ≤ bd.toInt))
   (hx : p.tables.exec = Jvm.exec) (hby : c.code = kc16) (hml : c.maxLocals = 4) (hZ : Z.Warmed39 s.vm) (hown : s.vm.findClass "com/example/lockstep/lockstep/session/History" = some m.cls)
   (X0 : Stand p l e own_r7 s m #[(.ref aH), (.ref aE)] below meth c s₁ locs 0 0) (e0 : s₁.heap = h0) (N0 : Fr n0 locs)
   (κ₀ : ∀ (T' : State) (L' : List Loc) (hdq : Int32) (fq : Nat → Value) (byq : Int64) (hvq : Int64) (gq : Nat → Value), Stand p l e own_r7 s m #[(.ref aH), (.ref aE)] below meth c T' L' 2 17 → Fr n0 L' → Keep h0 T'.heap [aH, aG, aR, aS, aL, aA] → (own_Hi Z T'.heap aH M mb aS aG hdq (1 : Int32) byq sq) → (own_RE Z T'.heap aG M fq) → (fq hdq.toNatClampNeg = .ref aE) → (own_Rm Z T'.heap aR aS aL aA bd hvq (0 : Int32) (1 : Int32)) → (own_RO Z T'.heap aA (10 : Int32) gq) → (gq (0 : Int32).toNatClampNeg = .ref aS) → (0 ≤ hdq.toInt ∧ hdq.toInt < M.toInt) → (byq.toInt = n.toInt) → (hvq.toInt = n.toInt + 128) → oG p e below F₀ (T'.setTop (mkF m 210 #[vR aH, vR aE, vI n, vI 1] []))) :
   oG p e below F₀ (s₁.setTop (mkF m 6 #[vR aH, vR aE, vI n, .unset] [])) := by
 refine o_al X0 hx hby q16_6 ?_
 refine o_g X0 hx hZ hown hw hby e0 (P0.2.2.2.2.2.2.1) 114 q16_7 fun T1 X1 e1 => ?_
 refine o_iy X1 hx hby q16_10 46 ((if0 _ _).trans (flt (by decide)).2.2.2) ?_
 refine o_al X1 hx hby q16_46 ?_
 refine o_g X1 hx hZ hown hw hby e1 (P0.2.2.2.2.2.2.1) 114 q16_47 fun T2 X2 e2 => ?_
 refine o_al X2 hx hby q16_50 ?_
 refine o_g X2 hx hZ hown hw hby e2 (P0.2.1) 79 q16_51 fun T3 X3 e3 => ?_
 have : (0 : Int32).toInt = 0 := (by decide)
 refine o_cn X3 hx hby q16_54 ((tlt (show (0 : Int32) < M from Int32.lt_iff_toInt_lt.mpr (by omega))).2.1) ?_
 refine o_il X3 hx hby q16_57 ?_
 refine o_i2l X3 hx hby q16_58 ?_
 refine o_al X3 hx hby q16_59 ?_
 refine o_g X3 hx hZ hown hw hby e3 (P0.2.2.1) 81 q16_60 fun T4 X4 e4 => ?_
 refine o_lcmp X4 hx hby q16_63 ?_
 have := c_i2l n
 refine o_in X4 hx hby q16_64 ((if0 _ _).trans (flt (fun q => absurd ((lw_gt _ _).mp q) (show ¬ (mb < (n.toInt64)) from mt Int64.lt_iff_toInt_lt.mp (by omega)))).2.2.1) ?_
 refine o_ic X4 hx hby 1 q16_67 ?_
 refine o_gt X4 hx hby q16_68 72 ?_
 refine o_is X4 hx hby q16_72 #[vR aH, vR aE, vI n, vI 1] ?_
 refine sg65 l Z a0 hw aH aE M mb aS aG hd by_ ls f aB sq n aR aL bd hv aA g h0 n0 Z0 P0 P1 P2 P3 P4 P5 P6 P7 P8 P9 P10 P11 P12 P13 P14 P15 P16 (show 1 ≤ M.toInt from by omega) (show n.toInt ≤ mb.toInt from by omega) (show n.toInt + 128 ≤ bd.toInt from by omega) hx hby hml hZ hown X4 e4 N0 (fun T5 L5 hdq6 fq7 byq8 hvq9 gq10 X5 N5 Kq5 p5_0 p5_1 p5_2 p5_3 p5_4 p5_5 p5_6 p5_7 p5_8 => ?_)
 have wx11 : own_exs Z _ [aH, aG, aR, aS, aL, aA] ocl_6 := ⟨(P0.1), P1.exa, P3.exR, P3.exS, P3.exL, P4.exa, trivial⟩
 have ni12 := own_nin (P2.1) wx11 nc_14
 have ni13 := own_nin P2.exB wx11 nc_15
 have f14 := P2.keep Kq5 ni12 ni13
 have K15 := own_ktr (Keep.refl h0 [aH, aG, aR, aS, aL, aA]) Kq5
 have z16 := Nat.le_trans Z0 Kq5.1
 exact κ₀ _ _ hdq6 fq7 byq8 hvq9 gq10 (X5.more (by decide) (by decide)) N5 K15 p5_0 p5_1 p5_2 p5_3 p5_4 p5_5 p5_6 p5_7 p5_8
set_option maxRecDepth 65536 in
set_option maxHeartbeats 40000000 in
theorem sg75 (l Z a0) (hw : oW a0 Z) (aH aE : Addr) (M : Int32) (mb : Int64) (aS aG : Addr) (hd : Int32) (by_ ls : Int64) (f : Nat → Value) (aE1 aB1 : Addr) (sq1 : Int64) (n1 : Int32) (aB : Addr) (sq : Int64) (n : Int32) (aR aL : Addr) (bd hv : Int64) (aA : Addr) (g : Nat → Value) (h0 : Heap) (n0 : Nat) (Z0 : n0 ≤ h0.size) (P0 : own_Hi Z h0 aH M mb aS aG hd (1 : Int32) by_ ls) (P1 : own_RE Z h0 aG M f) (P2 : f hd.toNatClampNeg = .ref aE1) (P3 : own_Ev Z h0 aE1 aB1 sq1 n1) (P4 : own_Ev Z h0 aE aB sq n) (P5 : own_Rm Z h0 aR aS aL aA bd hv (0 : Int32) (1 : Int32)) (P6 : own_RO Z h0 aA (10 : Int32) g) (P7 : g (0 : Int32).toNatClampNeg = .ref aS) (P8 : n0 ≤ aH) (P9 : n0 ≤ aG) (P10 : n0 ≤ aR) (P11 : n0 ≤ aS) (P12 : n0 ≤ aL) (P13 : n0 ≤ aA) (P14 : 0 ≤ M.toInt ∧ M.toInt ≤ 7) (P15 : 0 ≤ hd.toInt ∧ hd.toInt < M.toInt) (P16 : 0 ≤ n1.toInt ∧ n1.toInt ≤ 7) (P17 : 0 ≤ n.toInt ∧ n.toInt ≤ 7) (P18 : 0 ≤ mb.toInt) (P19 : by_.toInt = n1.toInt) (P20 : hv.toInt = n1.toInt + 128) (P21 : 1 ≤ M.toInt) (P22 : ¬ (1 ≤ M.toInt ∧ n.toInt ≤ mb.toInt ∧ n.toInt + 128 ≤ bd.toInt))
   (hx : p.tables.exec = Jvm.exec) (hby : c.code = kc16) (hml : c.maxLocals = 4) (hZ : Z.Warmed39 s.vm) (hown : s.vm.findClass "com/example/lockstep/lockstep/session/History" = some m.cls)
   (X0 : Stand p l e own_r7 s m #[(.ref aH), (.ref aE)] below meth c s₁ locs 0 0) (e0 : s₁.heap = h0) (N0 : Fr n0 locs)
   (κ₀ : ∀ (T' : State) (L' : List Loc) (hdq : Int32) (fq : Nat → Value) (byq : Int64) (hvq : Int64) (gq : Nat → Value), Stand p l e own_r7 s m #[(.ref aH), (.ref aE)] below meth c T' L' 2 17 → Fr n0 L' → Keep h0 T'.heap [aH, aG, aR, aS, aL, aA] → (own_Hi Z T'.heap aH M mb aS aG hdq (0 : Int32) byq sq) → (own_RE Z T'.heap aG M fq) → (own_Rm Z T'.heap aR aS aL aA bd hvq (-1 : Int32) (0 : Int32)) → (own_RO Z T'.heap aA (10 : Int32) gq) → (0 ≤ hdq.toInt ∧ hdq.toInt < M.toInt) → (byq.toInt = 0) → (hvq.toInt = 0) → oG p e below F₀ (T'.setTop (mkF m 210 #[vR aH, vR aE, vI n, vI 0] []))) :
   oG p e below F₀ (s₁.setTop (mkF m 6 #[vR aH, vR aE, vI n, .unset] [])) := by
 refine own_join (α := Unit) X0 e0 (fun T' _ => T'.setTop (mkF m 39 #[vR aH, vR aE, vI n, .unset] [])) (fun _ => True) ?_ ?_
 · intro T1 _ X1 e1 _
   show oG _ _ _ _ (T1.setTop (mkF m 39 #[vR aH, vR aE, vI n, .unset] []))
   refine o_al X1 hx hby q16_39 ?_
   refine o_cP X1 hx hZ hown hw hml hby (rm60 l Z a0 hw [] aH M mb aS aG hd by_ ls f aE1 aB1 sq1 n1 aR aL aA g bd hv h0 n0 Z0 P0 P1 P2 P3 P5 P6 P7 P8 P9 P10 P11 P12 P13 P14 P15 P16 P19 P20) (P0.1) e1 263 264 27 265 266 28 0 q16_40 [] [] pd_7 hy_9 fun v2 T2 L2 hQ2 X2 => ?_
   obtain ⟨fq3, byq4, hvq5, gq6, rfl, Nq2, Kq2, p2_0, p2_1, p2_2, p2_3, p2_4, p2_5⟩ := hQ2
   have N2 := Fr.app N0 Nq2
   have wx7 : own_exs Z _ [aH, aG, aR, aS, aL, aA] ocl_6 := ⟨(P0.1), P1.exa, P5.exR, P5.exS, P5.exL, P6.exa, trivial⟩
   have ni8 := own_nin (P3.1) wx7 nc_14
   have ni9 := own_nin P3.exB wx7 nc_15
   have f10 := P3.keep Kq2 ni8 ni9
   have ni11 := own_nin (P4.1) wx7 nc_14
   have ni12 := own_nin P4.exB wx7 nc_15
   have f13 := P4.keep Kq2 ni11 ni12
   have K14 := own_ktr (Keep.refl h0 [aH, aG, aR, aS, aL, aA]) Kq2
   have z15 := Nat.le_trans Z0 Kq2.1
   refine oN ?_
   refine o_gt X2 hx hby q16_43 6 ?_
   have : (1 : Int32).toInt = 1 := (by decide)
   have := And.intro (c_iadd hd (1 : Int32)) (rng32 (hd + (1 : Int32)))
   have := c_iremV (hd + (1 : Int32)) M
   refine sg73 l Z a0 hw aH aE M mb aS aG ((hd + (1 : Int32)) % M) byq4 ls fq3 aB sq n aR aL bd hvq5 aA gq6 T2.heap n0 z15 p2_0 p2_1 f13 p2_2 p2_3 P8 P9 P10 P11 P12 P13 P14 (show 0 ≤ ((hd + (1 : Int32)) % M).toInt ∧ ((hd + (1 : Int32)) % M).toInt < M.toInt from by omega) P17 P18 p2_4 p2_5 P22 hx hby hml hZ hown X2 rfl N2 (fun T16 L16 hdq17 fq18 byq19 hvq20 gq21 X16 N16 Kq16 p16_0 p16_1 p16_2 p16_3 p16_4 p16_5 p16_6 => ?_)
   have f22 := f10.keep Kq16 ni8 ni9
   have f23 := f13.keep Kq16 ni11 ni12
   have K24 := own_ktr K14 Kq16
   have z25 := Nat.le_trans z15 Kq16.1
   exact κ₀ _ _ hdq17 fq18 byq19 hvq20 gq21 (X16.more (by decide) (by decide)) N16 K24 p16_0 p16_1 p16_2 p16_3 p16_4 p16_5 p16_6
 · intro J1
   refine o_al X0 hx hby q16_6 ?_
   refine o_g X0 hx hZ hown hw hby e0 (P0.2.2.2.2.2.2.1) 114 q16_7 fun T26 X26 e26 => ?_
   refine o_in X26 hx hby q16_10 ((if0 _ _).trans (tlt (by decide)).2.2.2) ?_
   refine o_al X26 hx hby q16_13 ?_
   refine o_g X26 hx hZ hown hw hby e26 (P0.2.2.2.2.2.2.1) 114 q16_14 fun T27 X27 e27 => ?_
   refine o_al X27 hx hby q16_17 ?_
   refine o_g X27 hx hZ hown hw hby e27 (P0.2.1) 79 q16_18 fun T28 X28 e28 => ?_
   by_cases hc29 : (1 : Int32) = M
   · refine o_cy X28 hx hby q16_21 39 ((teq hc29).1) ?_
     exact J1 _ () X28 e28 trivial
   · refine o_cn X28 hx hby q16_21 ((feq hc29).1) ?_
     refine o_al X28 hx hby q16_24 ?_
     refine o_g X28 hx hZ hown hw hby e28 (P0.2.2.2.2.2.2.2.1) 248 q16_25 fun T30 X30 e30 => ?_
     refine o_il X30 hx hby q16_28 ?_
     refine o_i2l X30 hx hby q16_29 ?_
     refine o_ladd X30 hx hby q16_30 ?_
     refine o_al X30 hx hby q16_31 ?_
     refine o_g X30 hx hZ hown hw hby e30 (P0.2.2.1) 81 q16_32 fun T31 X31 e31 => ?_
     refine o_lcmp X31 hx hby q16_35 ?_
     by_cases hc32 : mb < (by_ + (n.toInt64))
     · refine o_in X31 hx hby q16_36 ((if0 _ _).trans (tlt ((lw_gt _ _).mpr hc32)).2.2.2) ?_
       exact J1 _ () X31 e31 trivial
     · refine o_iy X31 hx hby q16_36 46 ((if0 _ _).trans (flt (fun q => absurd ((lw_gt _ _).mp q) hc32)).2.2.2) ?_
       refine o_al X31 hx hby q16_46 ?_
       refine o_g X31 hx hZ hown hw hby e31 (P0.2.2.2.2.2.2.1) 114 q16_47 fun T33 X33 e33 => ?_
       refine o_al X33 hx hby q16_50 ?_
       refine o_g X33 hx hZ hown hw hby e33 (P0.2.1) 79 q16_51 fun T34 X34 e34 => ?_
       have := (mt Int32.toInt_inj.mp hc29)
       have := (mt Int64.lt_iff_toInt_lt.mpr hc32)
       have : (1 : Int32).toInt = 1 := (by decide)
       have := c_i2l n
       have := And.intro (c_ladd by_ (n).toInt64) (rng64 (by_ + (n).toInt64))
       refine o_cn X34 hx hby q16_54 ((tlt (show (1 : Int32) < M from Int32.lt_iff_toInt_lt.mpr (by omega))).2.1) ?_
       refine o_il X34 hx hby q16_57 ?_
       refine o_i2l X34 hx hby q16_58 ?_
       refine o_al X34 hx hby q16_59 ?_
       refine o_g X34 hx hZ hown hw hby e34 (P0.2.2.1) 81 q16_60 fun T35 X35 e35 => ?_
       refine o_lcmp X35 hx hby q16_63 ?_
       refine o_in X35 hx hby q16_64 ((if0 _ _).trans (flt (fun q => absurd ((lw_gt _ _).mp q) (show ¬ (mb < (n.toInt64)) from mt Int64.lt_iff_toInt_lt.mp (by omega)))).2.2.1) ?_
       refine o_ic X35 hx hby 1 q16_67 ?_
       refine o_gt X35 hx hby q16_68 72 ?_
       refine o_is X35 hx hby q16_72 #[vR aH, vR aE, vI n, vI 1] ?_
       refine sg66 l Z a0 hw aH aE M mb aS aG hd by_ ls f aE1 aB1 sq1 n1 aB sq n aR aL bd hv aA g h0 n0 Z0 P0 P1 P2 P3 P4 P5 P6 P7 P8 P9 P10 P11 P12 P13 P14 P15 P16 P17 P18 P19 P20 (show 2 ≤ M.toInt from by omega) (show n1.toInt + n.toInt ≤ mb.toInt from by omega) (show bd.toInt < n.toInt + 128 from by omega) hx hby hml hZ hown X35 e35 N0 (fun T36 L36 hdq37 fq38 byq39 hvq40 gq41 X36 N36 Kq36 p36_0 p36_1 p36_2 p36_3 p36_4 p36_5 p36_6 => ?_)
       have wx42 : own_exs Z _ [aH, aG, aR, aS, aL, aA] ocl_6 := ⟨(P0.1), P1.exa, P5.exR, P5.exS, P5.exL, P6.exa, trivial⟩
       have ni43 := own_nin (P3.1) wx42 nc_14
       have ni44 := own_nin P3.exB wx42 nc_15
       have f45 := P3.keep Kq36 ni43 ni44
       have ni46 := own_nin (P4.1) wx42 nc_14
       have ni47 := own_nin P4.exB wx42 nc_15
       have f48 := P4.keep Kq36 ni46 ni47
       have K49 := own_ktr (Keep.refl h0 [aH, aG, aR, aS, aL, aA]) Kq36
       have z50 := Nat.le_trans Z0 Kq36.1
       exact κ₀ _ _ hdq37 fq38 byq39 hvq40 gq41 (X36.more (by decide) (by decide)) N36 K49 p36_0 p36_1 p36_2 p36_3 p36_4 p36_5 p36_6
set_option maxRecDepth 65536 in
set_option maxHeartbeats 40000000 in
theorem sg76 (l Z a0) (hw : oW a0 Z) (aH aE : Addr) (M : Int32) (mb : Int64) (aS aG : Addr) (hd : Int32) (by_ ls : Int64) (f : Nat → Value) (aE1 aB1 : Addr) (sq1 : Int64) (n1 : Int32) (aB : Addr) (sq : Int64) (n : Int32) (aR aL : Addr) (bd hv : Int64) (aA : Addr) (g : Nat → Value) (h0 : Heap) (n0 : Nat) (Z0 : n0 ≤ h0.size) (P0 : own_Hi Z h0 aH M mb aS aG hd (1 : Int32) by_ ls) (P1 : own_RE Z h0 aG M f) (P2 : f hd.toNatClampNeg = .ref aE1) (P3 : own_Ev Z h0 aE1 aB1 sq1 n1) (P4 : own_Ev Z h0 aE aB sq n) (P5 : own_Rm Z h0 aR aS aL aA bd hv (0 : Int32) (1 : Int32)) (P6 : own_RO Z h0 aA (10 : Int32) g) (P7 : g (0 : Int32).toNatClampNeg = .ref aS) (P8 : n0 ≤ aH) (P9 : n0 ≤ aG) (P10 : n0 ≤ aR) (P11 : n0 ≤ aS) (P12 : n0 ≤ aL) (P13 : n0 ≤ aA) (P14 : 0 ≤ M.toInt ∧ M.toInt ≤ 7) (P15 : 0 ≤ hd.toInt ∧ hd.toInt < M.toInt) (P16 : 0 ≤ n1.toInt ∧ n1.toInt ≤ 7) (P17 : 0 ≤ n.toInt ∧ n.toInt ≤ 7) (P18 : 0 ≤ mb.toInt) (P19 : by_.toInt = n1.toInt) (P20 : hv.toInt = n1.toInt + 128) (P21 : 1 ≤ M.toInt) (P22 : (1 ≤ M.toInt ∧ n.toInt ≤ mb.toInt ∧ n.toInt + 128 ≤ bd.toInt)) (P23 : ¬ (2 ≤ M.toInt ∧ n1.toInt + n.toInt ≤ mb.toInt ∧ n1.toInt + n.toInt + 256 ≤ bd.toInt))
   (hx : p.tables.exec = Jvm.exec) (hby : c.code = kc16) (hml : c.maxLocals = 4) (hZ : Z.Warmed39 s.vm) (hown : s.vm.findClass "com/example/lockstep/lockstep/session/History" = some m.cls)
   (X0 : Stand p l e own_r7 s m #[(.ref aH), (.ref aE)] below meth c s₁ locs 0 0) (e0 : s₁.heap = h0) (N0 : Fr n0 locs)
   (κ₀ : ∀ (T' : State) (L' : List Loc) (hdq : Int32) (fq : Nat → Value) (byq : Int64) (hvq : Int64) (gq : Nat → Value), Stand p l e own_r7 s m #[(.ref aH), (.ref aE)] below meth c T' L' 2 17 → Fr n0 L' → Keep h0 T'.heap [aH, aG, aR, aS, aL, aA] → (own_Hi Z T'.heap aH M mb aS aG hdq (1 : Int32) byq sq) → (own_RE Z T'.heap aG M fq) → (fq hdq.toNatClampNeg = .ref aE) → (own_Rm Z T'.heap aR aS aL aA bd hvq (0 : Int32) (1 : Int32)) → (own_RO Z T'.heap aA (10 : Int32) gq) → (gq (0 : Int32).toNatClampNeg = .ref aS) → (0 ≤ hdq.toInt ∧ hdq.toInt < M.toInt) → (byq.toInt = n.toInt) → (hvq.toInt = n.toInt + 128) → oG p e below F₀ (T'.setTop (mkF m 210 #[vR aH, vR aE, vI n, vI 1] []))) :
   oG p e below F₀ (s₁.setTop (mkF m 6 #[vR aH, vR aE, vI n, .unset] [])) := by
 refine own_join (α := Unit) X0 e0 (fun T' _ => T'.setTop (mkF m 39 #[vR aH, vR aE, vI n, .unset] [])) (fun _ => True) ?_ ?_
 · intro T1 _ X1 e1 _
   show oG _ _ _ _ (T1.setTop (mkF m 39 #[vR aH, vR aE, vI n, .unset] []))
   refine o_al X1 hx hby q16_39 ?_
   refine o_cP X1 hx hZ hown hw hml hby (rm60 l Z a0 hw [] aH M mb aS aG hd by_ ls f aE1 aB1 sq1 n1 aR aL aA g bd hv h0 n0 Z0 P0 P1 P2 P3 P5 P6 P7 P8 P9 P10 P11 P12 P13 P14 P15 P16 P19 P20) (P0.1) e1 263 264 27 265 266 28 0 q16_40 [] [] pd_7 hy_9 fun v2 T2 L2 hQ2 X2 => ?_
   obtain ⟨fq3, byq4, hvq5, gq6, rfl, Nq2, Kq2, p2_0, p2_1, p2_2, p2_3, p2_4, p2_5⟩ := hQ2
   have N2 := Fr.app N0 Nq2
   have wx7 : own_exs Z _ [aH, aG, aR, aS, aL, aA] ocl_6 := ⟨(P0.1), P1.exa, P5.exR, P5.exS, P5.exL, P6.exa, trivial⟩
   have ni8 := own_nin (P3.1) wx7 nc_14
   have ni9 := own_nin P3.exB wx7 nc_15
   have f10 := P3.keep Kq2 ni8 ni9
   have ni11 := own_nin (P4.1) wx7 nc_14
   have ni12 := own_nin P4.exB wx7 nc_15
   have f13 := P4.keep Kq2 ni11 ni12
   have K14 := own_ktr (Keep.refl h0 [aH, aG, aR, aS, aL, aA]) Kq2
   have z15 := Nat.le_trans Z0 Kq2.1
   refine oN ?_
   refine o_gt X2 hx hby q16_43 6 ?_
   have : (1 : Int32).toInt = 1 := (by decide)
   have := And.intro (c_iadd hd (1 : Int32)) (rng32 (hd + (1 : Int32)))
   have := c_iremV (hd + (1 : Int32)) M
   refine sg74 l Z a0 hw aH aE M mb aS aG ((hd + (1 : Int32)) % M) byq4 ls fq3 aB sq n aR aL bd hvq5 aA gq6 T2.heap n0 z15 p2_0 p2_1 f13 p2_2 p2_3 P8 P9 P10 P11 P12 P13 P14 (show 0 ≤ ((hd + (1 : Int32)) % M).toInt ∧ ((hd + (1 : Int32)) % M).toInt < M.toInt from by omega) P17 P18 p2_4 p2_5 P22 hx hby hml hZ hown X2 rfl N2 (fun T16 L16 hdq17 fq18 byq19 hvq20 gq21 X16 N16 Kq16 p16_0 p16_1 p16_2 p16_3 p16_4 p16_5 p16_6 p16_7 p16_8 => ?_)
   have f22 := f10.keep Kq16 ni8 ni9
   have f23 := f13.keep Kq16 ni11 ni12
   have K24 := own_ktr K14 Kq16
   have z25 := Nat.le_trans z15 Kq16.1
   exact κ₀ _ _ hdq17 fq18 byq19 hvq20 gq21 (X16.more (by decide) (by decide)) N16 K24 p16_0 p16_1 p16_2 p16_3 p16_4 p16_5 p16_6 p16_7 p16_8
 · intro J1
   refine o_al X0 hx hby q16_6 ?_
   refine o_g X0 hx hZ hown hw hby e0 (P0.2.2.2.2.2.2.1) 114 q16_7 fun T26 X26 e26 => ?_
   refine o_in X26 hx hby q16_10 ((if0 _ _).trans (tlt (by decide)).2.2.2) ?_
   refine o_al X26 hx hby q16_13 ?_
   refine o_g X26 hx hZ hown hw hby e26 (P0.2.2.2.2.2.2.1) 114 q16_14 fun T27 X27 e27 => ?_
   refine o_al X27 hx hby q16_17 ?_
   refine o_g X27 hx hZ hown hw hby e27 (P0.2.1) 79 q16_18 fun T28 X28 e28 => ?_
   by_cases hc29 : (1 : Int32) = M
   · refine o_cy X28 hx hby q16_21 39 ((teq hc29).1) ?_
     exact J1 _ () X28 e28 trivial
   · refine o_cn X28 hx hby q16_21 ((feq hc29).1) ?_
     refine o_al X28 hx hby q16_24 ?_
     refine o_g X28 hx hZ hown hw hby e28 (P0.2.2.2.2.2.2.2.1) 248 q16_25 fun T30 X30 e30 => ?_
     refine o_il X30 hx hby q16_28 ?_
     refine o_i2l X30 hx hby q16_29 ?_
     refine o_ladd X30 hx hby q16_30 ?_
     refine o_al X30 hx hby q16_31 ?_
     refine o_g X30 hx hZ hown hw hby e30 (P0.2.2.1) 81 q16_32 fun T31 X31 e31 => ?_
     refine o_lcmp X31 hx hby q16_35 ?_
     by_cases hc32 : mb < (by_ + (n.toInt64))
     · refine o_in X31 hx hby q16_36 ((if0 _ _).trans (tlt ((lw_gt _ _).mpr hc32)).2.2.2) ?_
       exact J1 _ () X31 e31 trivial
     · refine o_iy X31 hx hby q16_36 46 ((if0 _ _).trans (flt (fun q => absurd ((lw_gt _ _).mp q) hc32)).2.2.2) ?_
       refine o_al X31 hx hby q16_46 ?_
       refine o_g X31 hx hZ hown hw hby e31 (P0.2.2.2.2.2.2.1) 114 q16_47 fun T33 X33 e33 => ?_
       refine o_al X33 hx hby q16_50 ?_
       refine o_g X33 hx hZ hown hw hby e33 (P0.2.1) 79 q16_51 fun T34 X34 e34 => ?_
       have := (mt Int32.toInt_inj.mp hc29)
       have := (mt Int64.lt_iff_toInt_lt.mpr hc32)
       have : (1 : Int32).toInt = 1 := (by decide)
       have := c_i2l n
       have := And.intro (c_ladd by_ (n).toInt64) (rng64 (by_ + (n).toInt64))
       refine o_cn X34 hx hby q16_54 ((tlt (show (1 : Int32) < M from Int32.lt_iff_toInt_lt.mpr (by omega))).2.1) ?_
       refine o_il X34 hx hby q16_57 ?_
       refine o_i2l X34 hx hby q16_58 ?_
       refine o_al X34 hx hby q16_59 ?_
       refine o_g X34 hx hZ hown hw hby e34 (P0.2.2.1) 81 q16_60 fun T35 X35 e35 => ?_
       refine o_lcmp X35 hx hby q16_63 ?_
       refine o_in X35 hx hby q16_64 ((if0 _ _).trans (flt (fun q => absurd ((lw_gt _ _).mp q) (show ¬ (mb < (n.toInt64)) from mt Int64.lt_iff_toInt_lt.mp (by omega)))).2.2.1) ?_
       refine o_ic X35 hx hby 1 q16_67 ?_
       refine o_gt X35 hx hby q16_68 72 ?_
       refine o_is X35 hx hby q16_72 #[vR aH, vR aE, vI n, vI 1] ?_
       refine sg67 l Z a0 hw aH aE M mb aS aG hd by_ ls f aE1 aB1 sq1 n1 aB sq n aR aL bd hv aA g h0 n0 Z0 P0 P1 P2 P3 P4 P5 P6 P7 P8 P9 P10 P11 P12 P13 P14 P15 P16 P17 P18 P19 P20 (show 2 ≤ M.toInt from by omega) (show n1.toInt + n.toInt ≤ mb.toInt from by omega) (show n.toInt + 128 ≤ bd.toInt from by omega) (show bd.toInt < n1.toInt + n.toInt + 256 from by omega) hx hby hml hZ hown X35 e35 N0 (fun T36 L36 hdq37 fq38 byq39 hvq40 gq41 X36 N36 Kq36 p36_0 p36_1 p36_2 p36_3 p36_4 p36_5 p36_6 p36_7 p36_8 => ?_)
       have wx42 : own_exs Z _ [aH, aG, aR, aS, aL, aA] ocl_6 := ⟨(P0.1), P1.exa, P5.exR, P5.exS, P5.exL, P6.exa, trivial⟩
       have ni43 := own_nin (P3.1) wx42 nc_14
       have ni44 := own_nin P3.exB wx42 nc_15
       have f45 := P3.keep Kq36 ni43 ni44
       have ni46 := own_nin (P4.1) wx42 nc_14
       have ni47 := own_nin P4.exB wx42 nc_15
       have f48 := P4.keep Kq36 ni46 ni47
       have K49 := own_ktr (Keep.refl h0 [aH, aG, aR, aS, aL, aA]) Kq36
       have z50 := Nat.le_trans Z0 Kq36.1
       exact κ₀ _ _ hdq37 fq38 byq39 hvq40 gq41 (X36.more (by decide) (by decide)) N36 K49 p36_0 p36_1 p36_2 p36_3 p36_4 p36_5 p36_6 p36_7 p36_8
set_option maxRecDepth 65536 in
set_option maxHeartbeats 40000000 in
theorem sg77 (l Z a0) (hw : oW a0 Z) (aH aE : Addr) (M : Int32) (mb : Int64) (aS aG : Addr) (hd : Int32) (by_ ls : Int64) (f : Nat → Value) (aE1 aB1 : Addr) (sq1 : Int64) (n1 : Int32) (aB : Addr) (sq : Int64) (n : Int32) (aR aL : Addr) (bd hv : Int64) (aA : Addr) (g : Nat → Value) (h0 : Heap) (n0 : Nat) (Z0 : n0 ≤ h0.size) (P0 : own_Hi Z h0 aH M mb aS aG hd (1 : Int32) by_ ls) (P1 : own_RE Z h0 aG M f) (P2 : f hd.toNatClampNeg = .ref aE1) (P3 : own_Ev Z h0 aE1 aB1 sq1 n1) (P4 : own_Ev Z h0 aE aB sq n) (P5 : own_Rm Z h0 aR aS aL aA bd hv (0 : Int32) (1 : Int32)) (P6 : own_RO Z h0 aA (10 : Int32) g) (P7 : g (0 : Int32).toNatClampNeg = .ref aS) (P8 : n0 ≤ aH) (P9 : n0 ≤ aG) (P10 : n0 ≤ aR) (P11 : n0 ≤ aS) (P12 : n0 ≤ aL) (P13 : n0 ≤ aA) (P14 : 0 ≤ M.toInt ∧ M.toInt ≤ 7) (P15 : 0 ≤ hd.toInt ∧ hd.toInt < M.toInt) (P16 : 0 ≤ n1.toInt ∧ n1.toInt ≤ 7) (P17 : 0 ≤ n.toInt ∧ n.toInt ≤ 7) (P18 : 0 ≤ mb.toInt) (P19 : by_.toInt = n1.toInt) (P20 : hv.toInt = n1.toInt + 128) (P21 : 1 ≤ M.toInt) (P22 : (2 ≤ M.toInt ∧ n1.toInt + n.toInt ≤ mb.toInt ∧ n1.toInt + n.toInt + 256 ≤ bd.toInt))
   (hx : p.tables.exec = Jvm.exec) (hby : c.code = kc16) (hml : c.maxLocals = 4) (hZ : Z.Warmed39 s.vm) (hown : s.vm.findClass "com/example/lockstep/lockstep/session/History" = some m.cls)
   (X0 : Stand p l e own_r7 s m #[(.ref aH), (.ref aE)] below meth c s₁ locs 0 0) (e0 : s₁.heap = h0) (N0 : Fr n0 locs)
   (κ₀ : ∀ (T' : State) (L' : List Loc) (hdq : Int32) (fq : Nat → Value) (byq : Int64) (hvq : Int64) (gq : Nat → Value), Stand p l e own_r7 s m #[(.ref aH), (.ref aE)] below meth c T' L' 2 17 → Fr n0 L' → Keep h0 T'.heap [aH, aG, aR, aS, aL, aA] → (own_Hi Z T'.heap aH M mb aS aG hdq (2 : Int32) byq sq) → (own_RE Z T'.heap aG M fq) → (fq hdq.toNatClampNeg = .ref aE1) → (fq ((hdq + (1 : Int32)) % M).toNatClampNeg = .ref aE) → (own_Rm Z T'.heap aR aS aL aA bd hvq (0 : Int32) (1 : Int32)) → (own_RO Z T'.heap aA (10 : Int32) gq) → (gq (0 : Int32).toNatClampNeg = .ref aS) → (0 ≤ hdq.toInt ∧ hdq.toInt < M.toInt) → (byq.toInt = n1.toInt + n.toInt) → (hvq.toInt = n1.toInt + n.toInt + 256) → oG p e below F₀ (T'.setTop (mkF m 210 #[vR aH, vR aE, vI n, vI 1] []))) :
   oG p e below F₀ (s₁.setTop (mkF m 6 #[vR aH, vR aE, vI n, .unset] [])) := by
 refine o_al X0 hx hby q16_6 ?_
 refine o_g X0 hx hZ hown hw hby e0 (P0.2.2.2.2.2.2.1) 114 q16_7 fun T1 X1 e1 => ?_
 refine o_in X1 hx hby q16_10 ((if0 _ _).trans (tlt (by decide)).2.2.2) ?_
 refine o_al X1 hx hby q16_13 ?_
 refine o_g X1 hx hZ hown hw hby e1 (P0.2.2.2.2.2.2.1) 114 q16_14 fun T2 X2 e2 => ?_
 refine o_al X2 hx hby q16_17 ?_
 refine o_g X2 hx hZ hown hw hby e2 (P0.2.1) 79 q16_18 fun T3 X3 e3 => ?_
 have : (1 : Int32).toInt = 1 := (by decide)
 refine o_cn X3 hx hby q16_21 ((feq (show ¬ ((1 : Int32) = M) from mt (congrArg Int32.toInt) (by omega))).1) ?_
 refine o_al X3 hx hby q16_24 ?_
 refine o_g X3 hx hZ hown hw hby e3 (P0.2.2.2.2.2.2.2.1) 248 q16_25 fun T4 X4 e4 => ?_
 refine o_il X4 hx hby q16_28 ?_
 refine o_i2l X4 hx hby q16_29 ?_
 refine o_ladd X4 hx hby q16_30 ?_
 refine o_al X4 hx hby q16_31 ?_
 refine o_g X4 hx hZ hown hw hby e4 (P0.2.2.1) 81 q16_32 fun T5 X5 e5 => ?_
 refine o_lcmp X5 hx hby q16_35 ?_
 have := c_i2l n
 have := And.intro (c_ladd by_ (n).toInt64) (rng64 (by_ + (n).toInt64))
 refine o_iy X5 hx hby q16_36 46 ((if0 _ _).trans (flt (fun q => absurd ((lw_gt _ _).mp q) (show ¬ (mb < (by_ + (n.toInt64))) from mt Int64.lt_iff_toInt_lt.mp (by omega)))).2.2.2) ?_
 refine o_al X5 hx hby q16_46 ?_
 refine o_g X5 hx hZ hown hw hby e5 (P0.2.2.2.2.2.2.1) 114 q16_47 fun T6 X6 e6 => ?_
 refine o_al X6 hx hby q16_50 ?_
 refine o_g X6 hx hZ hown hw hby e6 (P0.2.1) 79 q16_51 fun T7 X7 e7 => ?_
 refine o_cn X7 hx hby q16_54 ((tlt (show (1 : Int32) < M from Int32.lt_iff_toInt_lt.mpr (by omega))).2.1) ?_
 refine o_il X7 hx hby q16_57 ?_
 refine o_i2l X7 hx hby q16_58 ?_
 refine o_al X7 hx hby q16_59 ?_
 refine o_g X7 hx hZ hown hw hby e7 (P0.2.2.1) 81 q16_60 fun T8 X8 e8 => ?_
 refine o_lcmp X8 hx hby q16_63 ?_
 refine o_in X8 hx hby q16_64 ((if0 _ _).trans (flt (fun q => absurd ((lw_gt _ _).mp q) (show ¬ (mb < (n.toInt64)) from mt Int64.lt_iff_toInt_lt.mp (by omega)))).2.2.1) ?_
 refine o_ic X8 hx hby 1 q16_67 ?_
 refine o_gt X8 hx hby q16_68 72 ?_
 refine o_is X8 hx hby q16_72 #[vR aH, vR aE, vI n, vI 1] ?_
 refine sg68 l Z a0 hw aH aE M mb aS aG hd by_ ls f aE1 aB1 sq1 n1 aB sq n aR aL bd hv aA g h0 n0 Z0 P0 P1 P2 P3 P4 P5 P6 P7 P8 P9 P10 P11 P12 P13 P14 P15 P16 P17 P18 P19 P20 (show 2 ≤ M.toInt from by omega) (show n1.toInt + n.toInt ≤ mb.toInt from by omega) (show n1.toInt + n.toInt + 256 ≤ bd.toInt from by omega) hx hby hml hZ hown X8 e8 N0 (fun T9 L9 hdq10 fq11 byq12 hvq13 gq14 X9 N9 Kq9 p9_0 p9_1 p9_2 p9_3 p9_4 p9_5 p9_6 p9_7 p9_8 p9_9 => ?_)
 have wx15 : own_exs Z _ [aH, aG, aR, aS, aL, aA] ocl_6 := ⟨(P0.1), P1.exa, P5.exR, P5.exS, P5.exL, P6.exa, trivial⟩
 have ni16 := own_nin (P3.1) wx15 nc_14
 have ni17 := own_nin P3.exB wx15 nc_15
 have f18 := P3.keep Kq9 ni16 ni17
 have ni19 := own_nin (P4.1) wx15 nc_14
 have ni20 := own_nin P4.exB wx15 nc_15
 have f21 := P4.keep Kq9 ni19 ni20
 have K22 := own_ktr (Keep.refl h0 [aH, aG, aR, aS, aL, aA]) Kq9
 have z23 := Nat.le_trans Z0 Kq9.1
 exact κ₀ _ _ hdq10 fq11 byq12 hvq13 gq14 (X9.more (by decide) (by decide)) N9 K22 p9_0 p9_1 p9_2 p9_3 p9_4 p9_5 p9_6 p9_7 p9_8 p9_9
def Q78 (Z : State) (aH aE : Addr) (M : Int32) (mb : Int64) (aS aG : Addr) (by_ ls : Int64) (f : Nat → Value) (aB : Addr) (sq : Int64) (n : Int32) (aR aL : Addr) (bd hv : Int64) (aD : Addr) (kD : ClassId) (h0 : Heap) (n0 : Nat) (v : Option Value) (h : Heap) (L : List Loc) : Prop := v = none ∧ Fr n0 L ∧ Keep h0 h [aH] ∧ (own_Hi Z h aH M mb aS aG (0 : Int32) (0 : Int32) by_ sq)
set_option maxRecDepth 65536 in
set_option maxHeartbeats 40000000 in
theorem rm78 (l Z a0) (hw : oW a0 Z) (ws) (aH aE : Addr) (M : Int32) (mb : Int64) (aS aG : Addr) (by_ ls : Int64) (f : Nat → Value) (aB : Addr) (sq : Int64) (n : Int32) (aR aL : Addr) (bd hv : Int64) (aD : Addr) (kD : ClassId) (h0 : Heap) (n0 : Nat) (Z0 : n0 ≤ h0.size) (P0 : own_Hi Z h0 aH M mb aS aG (0 : Int32) (0 : Int32) by_ ls) (P1 : own_RE Z h0 aG (0 : Int32) f) (P2 : own_Ev Z h0 aE aB sq n) (P3 : own_Rm Z h0 aR aS aL aD bd hv (-1 : Int32) (0 : Int32)) (P4 : Old Z n0 h0) (P5 : Sta Z Z.heap "java/util/ArrayList" "DEFAULTCAPACITY_EMPTY_ELEMENTDATA" "[Ljava/lang/Object;" (.ref aD)) (P6 : Arv Z Z.heap aD kD (.object "java/lang/Object") (0 : Int32) [] .null) (P7 : n0 ≤ aH) (P8 : n0 ≤ aG) (P9 : n0 ≤ aR) (P10 : n0 ≤ aS) (P11 : n0 ≤ aL) (P12 : 0 ≤ M.toInt ∧ M.toInt ≤ 7) (P13 : 0 ≤ n.toInt ∧ n.toInt ≤ 7) (P14 : 0 ≤ mb.toInt) (P15 : by_.toInt = 0) (P16 : hv.toInt = 0) (P17 : ¬ (1 ≤ M.toInt ∧ n.toInt ≤ mb.toInt ∧ n.toInt + 128 ≤ bd.toInt)) :
   own_Met l own_y18 kc16 4 none ws own_r7 #[(.ref aH), (.ref aE)] Z h0 (Q78 Z aH aE M mb aS aG by_ ls f aB sq n aR aL bd hv aD kD h0 n0) := by
 refine own_bd #[vR aH, vR aE, .unset, .unset] (plainFor_of_name pn_8) fun p e s m below meth c s₁ hx hby hml hrt hlk hZ hown hnm X0 e0 => ?_
 have N0 := Fr.nil n0
 refine o_al X0 hx hby q16_0 ?_
 refine o_cV X0 hx hZ hown hw hml hby (rm49 l Z a0 hw [] aE aB h0 n0 Z0 (P2.2.2.1)) (P2.1) e0 126 127 129 128 130 8 0 q16_1 [] [] pd_21 hy_8 fun v1 T1 L1 hQ1 X1 => ?_
 obtain ⟨rfl, Nq1, eq1⟩ := hQ1
 have N1 := Fr.app N0 Nq1
 refine oV ?_
 refine o_nB X1 hx hZ hby eq1 (P2.2.2.2) q16_4 ?_
 refine o_is X1 hx hby q16_5 #[vR aH, vR aE, vI n, .unset] ?_
 refine o_al X1 hx hby q16_6 ?_
 refine o_g X1 hx hZ hown hw hby eq1 (P0.2.2.2.2.2.2.1) 114 q16_7 fun T3 X3 e3 => ?_
 refine o_iy X3 hx hby q16_10 46 ((if0 _ _).trans (flt (by decide)).2.2.2) ?_
 refine o_al X3 hx hby q16_46 ?_
 refine o_g X3 hx hZ hown hw hby e3 (P0.2.2.2.2.2.2.1) 114 q16_47 fun T4 X4 e4 => ?_
 refine o_al X4 hx hby q16_50 ?_
 refine o_g X4 hx hZ hown hw hby e4 (P0.2.1) 79 q16_51 fun T5 X5 e5 => ?_
 by_cases hc6 : (0 : Int32) < M
 · refine o_cn X5 hx hby q16_54 ((tlt hc6).2.1) ?_
   refine o_il X5 hx hby q16_57 ?_
   refine o_i2l X5 hx hby q16_58 ?_
   refine o_al X5 hx hby q16_59 ?_
   refine o_g X5 hx hZ hown hw hby e5 (P0.2.2.1) 81 q16_60 fun T7 X7 e7 => ?_
   refine o_lcmp X7 hx hby q16_63 ?_
   by_cases hc8 : mb < (n.toInt64)
   · refine o_iy X7 hx hby q16_64 71 ((if0 _ _).trans (tlt ((lw_gt _ _).mpr hc8)).2.2.1) ?_
     refine o_ic X7 hx hby 0 q16_71 ?_
     refine o_is X7 hx hby q16_72 #[vR aH, vR aE, vI n, vI 0] ?_
     refine o_il X7 hx hby q16_73 ?_
     refine o_iy X7 hx hby q16_74 115 ((if0 _ _).trans (teq rfl).1) ?_
     refine o_il X7 hx hby q16_115 ?_
     refine o_iy X7 hx hby q16_116 202 ((if0 _ _).trans (teq rfl).1) ?_
     refine o_al X7 hx hby q16_202 ?_
     refine o_al X7 hx hby q16_203 ?_
     refine o_cV X7 hx hZ hown hw hml hby (rm50 l Z a0 hw [] aE sq h0 n0 Z0 (P2.2.1)) (P2.1) e7 250 251 253 252 254 8 1 q16_204 [] [(.ref aH)] pd_25 hy_8 fun v9 T9 L9 hQ9 X9 => ?_
     obtain ⟨rfl, Nq9, eq9⟩ := hQ9
     have N9 := Fr.app N1 Nq9
     refine oV ?_
     refine o_pF X9 hx hZ hown hby (own_w hw 112 rfl) Via.refl eq9 (P0.2.2.2.2.2.2.2.2) (P0.1) (Or.inl (own_w hw 113 rfl)) (own_w hw 27 rfl) ft_2 q16_207 fun T10 h10 X10 e10 W10 => ?_
     have N10 := Fr.snoc X10 N9 P7
     have Fw10 := (P0.2.2.2.2.2.2.2.2).same W10
     have ne11 := own_neE P1.exa (P0.1) ns_8
     have f12 := P1.other W10 ne11
     have ne13 := own_neE (P2.1) (P0.1) ns_15
     have ne14 := own_neE P2.exB (P0.1) ns_16
     have f15 := P2.other W10 ne13 ne14
     have ne16 := own_neE P3.exR (P0.1) ns_6
     have ne17 := own_neE P3.exS (P0.1) ns_17
     have ne18 := own_neE P3.exL (P0.1) (Ne.symm ns_7)
     have f19 := P3.other W10 ne16 ne17 ne18
     have f20 := P4.wr W10 P7
     have f21 := (P0.1).wr W10
     have f22 := (P0.2.1).other W10 (Or.inr (sn_97 hw))
     have f23 := (P0.2.2.1).other W10 (Or.inr (sn_98 hw))
     have f24 := (P0.2.2.2.1).other W10 (Or.inr (sn_99 hw))
     have f25 := (P0.2.2.2.2.1).other W10 (Or.inr (sn_100 hw))
     have f26 := (P0.2.2.2.2.2.1).other W10 (Or.inr (sn_101 hw))
     have f27 := (P0.2.2.2.2.2.2.1).other W10 (Or.inr (sn_102 hw))
     have f28 := (P0.2.2.2.2.2.2.2.1).other W10 (Or.inr (sn_103 hw))
     have K29 := (Keep.refl h0 [aH]).wr W10 (ow 0 rfl)
     have z30 := Nat.le_trans Z0 (Keep.of_wr W10).1
     exact o_rv X10 hx hby hrt hlk q16_210 (by rw [e10]; exact ⟨rfl, N10, K29, ⟨f21, f22, f23, f24, f25, f26, f27, f28, Fw10⟩⟩)
   · refine o_in X7 hx hby q16_64 ((if0 _ _).trans (flt (fun q => absurd ((lw_gt _ _).mp q) hc8)).2.2.1) ?_
     refine o_ic X7 hx hby 1 q16_67 ?_
     refine o_gt X7 hx hby q16_68 72 ?_
     refine o_is X7 hx hby q16_72 #[vR aH, vR aE, vI n, vI 1] ?_
     have := (Int32.lt_iff_toInt_lt.mp hc6)
     have := (mt Int64.lt_iff_toInt_lt.mpr hc8)
     have : (0 : Int32).toInt = 0 := (by decide)
     have := c_i2l n
     refine sg62 l Z a0 hw aH aE M mb aS aG by_ ls f aB sq n aR aL bd hv aD kD h0 n0 Z0 P0 P1 P2 P3 P4 P5 P6 P7 P8 P9 P10 P11 P12 P13 P14 P15 P16 (show 1 ≤ M.toInt from by omega) (show n.toInt ≤ mb.toInt from by omega) (show bd.toInt < n.toInt + 128 from by omega) hx hby hml hZ hown X7 e7 N1 (fun T31 L31  X31 N31 Kq31 p31_0 => ?_)
     have ne32 := own_neE P1.exa (P0.1) ns_8
     have f33 := P1.keep Kq31 (ninS ne32 nin0)
     have ne34 := own_neE (P2.1) (P0.1) ns_15
     have ne35 := own_neE P2.exB (P0.1) ns_16
     have f36 := P2.keep Kq31 (ninS ne34 nin0) (ninS ne35 nin0)
     have ne37 := own_neE P3.exR (P0.1) ns_6
     have ne38 := own_neE P3.exS (P0.1) ns_17
     have ne39 := own_neE P3.exL (P0.1) (Ne.symm ns_7)
     have f40 := P3.keep Kq31 (ninS ne37 nin0) (ninS ne38 nin0) (ninS ne39 nin0)
     have f41 := P4.keep Kq31 (allS P7 all0)
     have K42 := own_ktr (Keep.refl h0 [aH]) Kq31
     have z43 := Nat.le_trans Z0 Kq31.1
     exact o_rv X31 hx hby hrt hlk q16_210 ⟨rfl, N31, K42, p31_0⟩
 · refine o_cy X5 hx hby q16_54 71 ((flt hc6).2.1) ?_
   refine o_ic X5 hx hby 0 q16_71 ?_
   refine o_is X5 hx hby q16_72 #[vR aH, vR aE, vI n, vI 0] ?_
   refine o_il X5 hx hby q16_73 ?_
   refine o_iy X5 hx hby q16_74 115 ((if0 _ _).trans (teq rfl).1) ?_
   refine o_il X5 hx hby q16_115 ?_
   refine o_iy X5 hx hby q16_116 202 ((if0 _ _).trans (teq rfl).1) ?_
   refine o_al X5 hx hby q16_202 ?_
   refine o_al X5 hx hby q16_203 ?_
   refine o_cV X5 hx hZ hown hw hml hby (rm50 l Z a0 hw [] aE sq h0 n0 Z0 (P2.2.1)) (P2.1) e5 250 251 253 252 254 8 1 q16_204 [] [(.ref aH)] pd_25 hy_8 fun v44 T44 L44 hQ44 X44 => ?_
   obtain ⟨rfl, Nq44, eq44⟩ := hQ44
   have N44 := Fr.app N1 Nq44
   refine oV ?_
   refine o_pF X44 hx hZ hown hby (own_w hw 112 rfl) Via.refl eq44 (P0.2.2.2.2.2.2.2.2) (P0.1) (Or.inl (own_w hw 113 rfl)) (own_w hw 27 rfl) ft_2 q16_207 fun T45 h45 X45 e45 W45 => ?_
   have N45 := Fr.snoc X45 N44 P7
   have Fw45 := (P0.2.2.2.2.2.2.2.2).same W45
   have ne46 := own_neE P1.exa (P0.1) ns_8
   have f47 := P1.other W45 ne46
   have ne48 := own_neE (P2.1) (P0.1) ns_15
   have ne49 := own_neE P2.exB (P0.1) ns_16
   have f50 := P2.other W45 ne48 ne49
   have ne51 := own_neE P3.exR (P0.1) ns_6
   have ne52 := own_neE P3.exS (P0.1) ns_17
   have ne53 := own_neE P3.exL (P0.1) (Ne.symm ns_7)
   have f54 := P3.other W45 ne51 ne52 ne53
   have f55 := P4.wr W45 P7
   have f56 := (P0.1).wr W45
   have f57 := (P0.2.1).other W45 (Or.inr (sn_97 hw))
   have f58 := (P0.2.2.1).other W45 (Or.inr (sn_98 hw))
   have f59 := (P0.2.2.2.1).other W45 (Or.inr (sn_99 hw))
   have f60 := (P0.2.2.2.2.1).other W45 (Or.inr (sn_100 hw))
   have f61 := (P0.2.2.2.2.2.1).other W45 (Or.inr (sn_101 hw))
   have f62 := (P0.2.2.2.2.2.2.1).other W45 (Or.inr (sn_102 hw))
   have f63 := (P0.2.2.2.2.2.2.2.1).other W45 (Or.inr (sn_103 hw))
   have K64 := (Keep.refl h0 [aH]).wr W45 (ow 0 rfl)
   have z65 := Nat.le_trans Z0 (Keep.of_wr W45).1
   exact o_rv X45 hx hby hrt hlk q16_210 (by rw [e45]; exact ⟨rfl, N45, K64, ⟨f56, f57, f58, f59, f60, f61, f62, f63, Fw45⟩⟩)
def Q79 (Z : State) (aH aE : Addr) (M : Int32) (mb : Int64) (aS aG : Addr) (by_ ls : Int64) (f : Nat → Value) (aB : Addr) (sq : Int64) (n : Int32) (aR aL : Addr) (bd hv : Int64) (aD : Addr) (kD : ClassId) (h0 : Heap) (n0 : Nat) (v : Option Value) (h : Heap) (L : List Loc) : Prop := ∃ aG2 : Addr, ∃ aA2 : Addr, ∃ fq : Nat → Value, ∃ byq : Int64, ∃ hvq : Int64, ∃ gq : Nat → Value, v = none ∧ Fr n0 L ∧ Keep h0 h [aH, aR, aS, aL] ∧ (h0.size ≤ aG2) ∧ (h0.size ≤ aA2) ∧ (own_Hi Z h aH M mb aS aG2 (0 : Int32) (1 : Int32) byq sq) ∧ (own_RE Z h aG2 M fq) ∧ (fq (0 : Int32).toNatClampNeg = .ref aE) ∧ (own_Rm Z h aR aS aL aA2 bd hvq (0 : Int32) (1 : Int32)) ∧ (own_RO Z h aA2 (10 : Int32) gq) ∧ (gq (0 : Int32).toNatClampNeg = .ref aS) ∧ (byq.toInt = n.toInt) ∧ (hvq.toInt = n.toInt + 128)
set_option maxRecDepth 65536 in
set_option maxHeartbeats 40000000 in
theorem rm79 (l Z a0) (hw : oW a0 Z) (ws) (aH aE : Addr) (M : Int32) (mb : Int64) (aS aG : Addr) (by_ ls : Int64) (f : Nat → Value) (aB : Addr) (sq : Int64) (n : Int32) (aR aL : Addr) (bd hv : Int64) (aD : Addr) (kD : ClassId) (h0 : Heap) (n0 : Nat) (Z0 : n0 ≤ h0.size) (P0 : own_Hi Z h0 aH M mb aS aG (0 : Int32) (0 : Int32) by_ ls) (P1 : own_RE Z h0 aG (0 : Int32) f) (P2 : own_Ev Z h0 aE aB sq n) (P3 : own_Rm Z h0 aR aS aL aD bd hv (-1 : Int32) (0 : Int32)) (P4 : Old Z n0 h0) (P5 : Sta Z Z.heap "java/util/ArrayList" "DEFAULTCAPACITY_EMPTY_ELEMENTDATA" "[Ljava/lang/Object;" (.ref aD)) (P6 : Arv Z Z.heap aD kD (.object "java/lang/Object") (0 : Int32) [] .null) (P7 : n0 ≤ aH) (P8 : n0 ≤ aG) (P9 : n0 ≤ aR) (P10 : n0 ≤ aS) (P11 : n0 ≤ aL) (P12 : 0 ≤ M.toInt ∧ M.toInt ≤ 7) (P13 : 0 ≤ n.toInt ∧ n.toInt ≤ 7) (P14 : 0 ≤ mb.toInt) (P15 : by_.toInt = 0) (P16 : hv.toInt = 0) (P17 : (1 ≤ M.toInt ∧ n.toInt ≤ mb.toInt ∧ n.toInt + 128 ≤ bd.toInt)) :
   own_Met l own_y18 kc16 4 none ws own_r7 #[(.ref aH), (.ref aE)] Z h0 (Q79 Z aH aE M mb aS aG by_ ls f aB sq n aR aL bd hv aD kD h0 n0) := by
 refine own_bd #[vR aH, vR aE, .unset, .unset] (plainFor_of_name pn_8) fun p e s m below meth c s₁ hx hby hml hrt hlk hZ hown hnm X0 e0 => ?_
 have N0 := Fr.nil n0
 refine o_al X0 hx hby q16_0 ?_
 refine o_cV X0 hx hZ hown hw hml hby (rm49 l Z a0 hw [] aE aB h0 n0 Z0 (P2.2.2.1)) (P2.1) e0 126 127 129 128 130 8 0 q16_1 [] [] pd_21 hy_8 fun v1 T1 L1 hQ1 X1 => ?_
 obtain ⟨rfl, Nq1, eq1⟩ := hQ1
 have N1 := Fr.app N0 Nq1
 refine oV ?_
 refine o_nB X1 hx hZ hby eq1 (P2.2.2.2) q16_4 ?_
 refine o_is X1 hx hby q16_5 #[vR aH, vR aE, vI n, .unset] ?_
 refine o_al X1 hx hby q16_6 ?_
 refine o_g X1 hx hZ hown hw hby eq1 (P0.2.2.2.2.2.2.1) 114 q16_7 fun T3 X3 e3 => ?_
 refine o_iy X3 hx hby q16_10 46 ((if0 _ _).trans (flt (by decide)).2.2.2) ?_
 refine o_al X3 hx hby q16_46 ?_
 refine o_g X3 hx hZ hown hw hby e3 (P0.2.2.2.2.2.2.1) 114 q16_47 fun T4 X4 e4 => ?_
 refine o_al X4 hx hby q16_50 ?_
 refine o_g X4 hx hZ hown hw hby e4 (P0.2.1) 79 q16_51 fun T5 X5 e5 => ?_
 have : (0 : Int32).toInt = 0 := (by decide)
 refine o_cn X5 hx hby q16_54 ((tlt (show (0 : Int32) < M from Int32.lt_iff_toInt_lt.mpr (by omega))).2.1) ?_
 refine o_il X5 hx hby q16_57 ?_
 refine o_i2l X5 hx hby q16_58 ?_
 refine o_al X5 hx hby q16_59 ?_
 refine o_g X5 hx hZ hown hw hby e5 (P0.2.2.1) 81 q16_60 fun T6 X6 e6 => ?_
 refine o_lcmp X6 hx hby q16_63 ?_
 have := c_i2l n
 refine o_in X6 hx hby q16_64 ((if0 _ _).trans (flt (fun q => absurd ((lw_gt _ _).mp q) (show ¬ (mb < (n.toInt64)) from mt Int64.lt_iff_toInt_lt.mp (by omega)))).2.2.1) ?_
 refine o_ic X6 hx hby 1 q16_67 ?_
 refine o_gt X6 hx hby q16_68 72 ?_
 refine o_is X6 hx hby q16_72 #[vR aH, vR aE, vI n, vI 1] ?_
 refine sg63 l Z a0 hw aH aE M mb aS aG by_ ls f aB sq n aR aL bd hv aD kD h0 n0 Z0 P0 P1 P2 P3 P4 P5 P6 P7 P8 P9 P10 P11 P12 P13 P14 P15 P16 (show 1 ≤ M.toInt from by omega) (show n.toInt ≤ mb.toInt from by omega) (show n.toInt + 128 ≤ bd.toInt from by omega) hx hby hml hZ hown X6 e6 N1 (fun T7 L7 aG28 aA29 fq10 byq11 hvq12 gq13 X7 N7 Kq7 p7_0 p7_1 p7_2 p7_3 p7_4 p7_5 p7_6 p7_7 p7_8 p7_9 => ?_)
 have ne14 : aH ≠ aG28 := Nat.ne_of_lt (Nat.lt_of_lt_of_le (P0.1).lt p7_0)
 have ne15 : aG ≠ aG28 := Nat.ne_of_lt (Nat.lt_of_lt_of_le P1.lt p7_0)
 have ne16 : aE ≠ aG28 := Nat.ne_of_lt (Nat.lt_of_lt_of_le (P2.1).lt p7_0)
 have ne17 : aB ≠ aG28 := Nat.ne_of_lt (Nat.lt_of_lt_of_le (P2.2.2.2).lt p7_0)
 have ne18 : aR ≠ aG28 := Nat.ne_of_lt (Nat.lt_of_lt_of_le P3.exR.lt p7_0)
 have ne19 : aS ≠ aG28 := Nat.ne_of_lt (Nat.lt_of_lt_of_le P3.exS.lt p7_0)
 have ne20 : aL ≠ aG28 := Nat.ne_of_lt (Nat.lt_of_lt_of_le P3.exL.lt p7_0)
 have ne21 : aD ≠ aG28 := Nat.ne_of_lt (Nat.lt_of_lt_of_le (P6.ext P4.2).lt p7_0)
 have ge22 : n0 ≤ aG28 := Nat.le_trans Z0 p7_0
 have sz23 : h0.size ≤ aG28 := Nat.le_trans (Keep.refl h0 [aH, aR, aS, aL]).1 p7_0
 have ne24 : aH ≠ aA29 := Nat.ne_of_lt (Nat.lt_of_lt_of_le (P0.1).lt p7_1)
 have ne25 : aG ≠ aA29 := Nat.ne_of_lt (Nat.lt_of_lt_of_le P1.lt p7_1)
 have ne26 : aE ≠ aA29 := Nat.ne_of_lt (Nat.lt_of_lt_of_le (P2.1).lt p7_1)
 have ne27 : aB ≠ aA29 := Nat.ne_of_lt (Nat.lt_of_lt_of_le (P2.2.2.2).lt p7_1)
 have ne28 : aR ≠ aA29 := Nat.ne_of_lt (Nat.lt_of_lt_of_le P3.exR.lt p7_1)
 have ne29 : aS ≠ aA29 := Nat.ne_of_lt (Nat.lt_of_lt_of_le P3.exS.lt p7_1)
 have ne30 : aL ≠ aA29 := Nat.ne_of_lt (Nat.lt_of_lt_of_le P3.exL.lt p7_1)
 have ne31 : aD ≠ aA29 := Nat.ne_of_lt (Nat.lt_of_lt_of_le (P6.ext P4.2).lt p7_1)
 have ge32 : n0 ≤ aA29 := Nat.le_trans Z0 p7_1
 have sz33 : h0.size ≤ aA29 := Nat.le_trans (Keep.refl h0 [aH, aR, aS, aL]).1 p7_1
 have wx34 : own_exs Z _ [aH, aR, aS, aL] ocl_7 := ⟨(P0.1), P3.exR, P3.exS, P3.exL, trivial⟩
 have ni35 := own_nin P1.exa wx34 nc_16
 have f36 := P1.keep Kq7 ni35
 have ni37 := own_nin (P2.1) wx34 nc_17
 have ni38 := own_nin P2.exB wx34 nc_18
 have f39 := P2.keep Kq7 ni37 ni38
 have f40 := P4.keep Kq7 (allS P7 (allS P9 (allS P10 (allS P11 all0))))
 have K41 := own_ktr (Keep.refl h0 [aH, aR, aS, aL]) Kq7
 have z42 := Nat.le_trans Z0 Kq7.1
 exact o_rv X7 hx hby hrt hlk q16_210 ⟨aG28, aA29, fq10, byq11, hvq12, gq13, rfl, N7, K41, sz23, sz33, p7_2, p7_3, p7_4, p7_5, p7_6, p7_7, p7_8, p7_9⟩
def Q80 (Z : State) (aH aE : Addr) (M : Int32) (mb : Int64) (aS aG : Addr) (hd : Int32) (by_ ls : Int64) (f : Nat → Value) (aB : Addr) (sq : Int64) (n : Int32) (aR aL : Addr) (bd hv : Int64) (aA : Addr) (g : Nat → Value) (h0 : Heap) (n0 : Nat) (v : Option Value) (h : Heap) (L : List Loc) : Prop := ∃ hdq : Int32, ∃ fq : Nat → Value, ∃ byq : Int64, ∃ hvq : Int64, ∃ gq : Nat → Value, v = none ∧ Fr n0 L ∧ Keep h0 h [aH, aG, aR, aS, aL, aA] ∧ (own_Hi Z h aH M mb aS aG hdq (0 : Int32) byq sq) ∧ (own_RE Z h aG M fq) ∧ (own_Rm Z h aR aS aL aA bd hvq (-1 : Int32) (0 : Int32)) ∧ (own_RO Z h aA (10 : Int32) gq) ∧ (0 ≤ hdq.toInt ∧ hdq.toInt < M.toInt) ∧ (byq.toInt = 0) ∧ (hvq.toInt = 0)
set_option maxRecDepth 65536 in
set_option maxHeartbeats 40000000 in
theorem rm80 (l Z a0) (hw : oW a0 Z) (ws) (aH aE : Addr) (M : Int32) (mb : Int64) (aS aG : Addr) (hd : Int32) (by_ ls : Int64) (f : Nat → Value) (aB : Addr) (sq : Int64) (n : Int32) (aR aL : Addr) (bd hv : Int64) (aA : Addr) (g : Nat → Value) (h0 : Heap) (n0 : Nat) (Z0 : n0 ≤ h0.size) (P0 : own_Hi Z h0 aH M mb aS aG hd (0 : Int32) by_ ls) (P1 : own_RE Z h0 aG M f) (P2 : own_Ev Z h0 aE aB sq n) (P3 : own_Rm Z h0 aR aS aL aA bd hv (-1 : Int32) (0 : Int32)) (P4 : own_RO Z h0 aA (10 : Int32) g) (P5 : n0 ≤ aH) (P6 : n0 ≤ aG) (P7 : n0 ≤ aR) (P8 : n0 ≤ aS) (P9 : n0 ≤ aL) (P10 : n0 ≤ aA) (P11 : 0 ≤ M.toInt ∧ M.toInt ≤ 7) (P12 : 0 ≤ hd.toInt ∧ hd.toInt < M.toInt) (P13 : 0 ≤ n.toInt ∧ n.toInt ≤ 7) (P14 : 0 ≤ mb.toInt) (P15 : by_.toInt = 0) (P16 : hv.toInt = 0) (P17 : ¬ (1 ≤ M.toInt ∧ n.toInt ≤ mb.toInt ∧ n.toInt + 128 ≤ bd.toInt)) :
   own_Met l own_y18 kc16 4 none ws own_r7 #[(.ref aH), (.ref aE)] Z h0 (Q80 Z aH aE M mb aS aG hd by_ ls f aB sq n aR aL bd hv aA g h0 n0) := by
 refine own_bd #[vR aH, vR aE, .unset, .unset] (plainFor_of_name pn_8) fun p e s m below meth c s₁ hx hby hml hrt hlk hZ hown hnm X0 e0 => ?_
 have N0 := Fr.nil n0
 refine o_al X0 hx hby q16_0 ?_
 refine o_cV X0 hx hZ hown hw hml hby (rm49 l Z a0 hw [] aE aB h0 n0 Z0 (P2.2.2.1)) (P2.1) e0 126 127 129 128 130 8 0 q16_1 [] [] pd_21 hy_8 fun v1 T1 L1 hQ1 X1 => ?_
 obtain ⟨rfl, Nq1, eq1⟩ := hQ1
 have N1 := Fr.app N0 Nq1
 refine oV ?_
 refine o_nB X1 hx hZ hby eq1 (P2.2.2.2) q16_4 ?_
 refine o_is X1 hx hby q16_5 #[vR aH, vR aE, vI n, .unset] ?_
 refine o_al X1 hx hby q16_6 ?_
 refine o_g X1 hx hZ hown hw hby eq1 (P0.2.2.2.2.2.2.1) 114 q16_7 fun T3 X3 e3 => ?_
 refine o_iy X3 hx hby q16_10 46 ((if0 _ _).trans (flt (by decide)).2.2.2) ?_
 refine o_al X3 hx hby q16_46 ?_
 refine o_g X3 hx hZ hown hw hby e3 (P0.2.2.2.2.2.2.1) 114 q16_47 fun T4 X4 e4 => ?_
 refine o_al X4 hx hby q16_50 ?_
 refine o_g X4 hx hZ hown hw hby e4 (P0.2.1) 79 q16_51 fun T5 X5 e5 => ?_
 have : (0 : Int32).toInt = 0 := (by decide)
 refine o_cn X5 hx hby q16_54 ((tlt (show (0 : Int32) < M from Int32.lt_iff_toInt_lt.mpr (by omega))).2.1) ?_
 refine o_il X5 hx hby q16_57 ?_
 refine o_i2l X5 hx hby q16_58 ?_
 refine o_al X5 hx hby q16_59 ?_
 refine o_g X5 hx hZ hown hw hby e5 (P0.2.2.1) 81 q16_60 fun T6 X6 e6 => ?_
 refine o_lcmp X6 hx hby q16_63 ?_
 by_cases hc7 : mb < (n.toInt64)
 · refine o_iy X6 hx hby q16_64 71 ((if0 _ _).trans (tlt ((lw_gt _ _).mpr hc7)).2.2.1) ?_
   refine o_ic X6 hx hby 0 q16_71 ?_
   refine o_is X6 hx hby q16_72 #[vR aH, vR aE, vI n, vI 0] ?_
   refine o_il X6 hx hby q16_73 ?_
   refine o_iy X6 hx hby q16_74 115 ((if0 _ _).trans (teq rfl).1) ?_
   refine o_il X6 hx hby q16_115 ?_
   refine o_iy X6 hx hby q16_116 202 ((if0 _ _).trans (teq rfl).1) ?_
   refine o_al X6 hx hby q16_202 ?_
   refine o_al X6 hx hby q16_203 ?_
   refine o_cV X6 hx hZ hown hw hml hby (rm50 l Z a0 hw [] aE sq h0 n0 Z0 (P2.2.1)) (P2.1) e6 250 251 253 252 254 8 1 q16_204 [] [(.ref aH)] pd_25 hy_8 fun v8 T8 L8 hQ8 X8 => ?_
   obtain ⟨rfl, Nq8, eq8⟩ := hQ8
   have N8 := Fr.app N1 Nq8
   refine oV ?_
   refine o_pF X8 hx hZ hown hby (own_w hw 112 rfl) Via.refl eq8 (P0.2.2.2.2.2.2.2.2) (P0.1) (Or.inl (own_w hw 113 rfl)) (own_w hw 27 rfl) ft_2 q16_207 fun T9 h9 X9 e9 W9 => ?_
   have N9 := Fr.snoc X9 N8 P5
   have Fw9 := (P0.2.2.2.2.2.2.2.2).same W9
   have ne10 := own_neE P1.exa (P0.1) ns_8
   have f11 := P1.other W9 ne10
   have ne12 := own_neE (P2.1) (P0.1) ns_15
   have ne13 := own_neE P2.exB (P0.1) ns_16
   have f14 := P2.other W9 ne12 ne13
   have ne15 := own_neE P3.exR (P0.1) ns_6
   have ne16 := own_neE P3.exS (P0.1) ns_17
   have ne17 := own_neE P3.exL (P0.1) (Ne.symm ns_7)
   have f18 := P3.other W9 ne15 ne16 ne17
   have ne19 := own_neE P4.exa (P0.1) ns_18
   have f20 := P4.other W9 ne19
   have f21 := (P0.1).wr W9
   have f22 := (P0.2.1).other W9 (Or.inr (sn_97 hw))
   have f23 := (P0.2.2.1).other W9 (Or.inr (sn_98 hw))
   have f24 := (P0.2.2.2.1).other W9 (Or.inr (sn_99 hw))
   have f25 := (P0.2.2.2.2.1).other W9 (Or.inr (sn_100 hw))
   have f26 := (P0.2.2.2.2.2.1).other W9 (Or.inr (sn_101 hw))
   have f27 := (P0.2.2.2.2.2.2.1).other W9 (Or.inr (sn_102 hw))
   have f28 := (P0.2.2.2.2.2.2.2.1).other W9 (Or.inr (sn_103 hw))
   have K29 := (Keep.refl h0 [aH, aG, aR, aS, aL, aA]).wr W9 (ow 0 rfl)
   have z30 := Nat.le_trans Z0 (Keep.of_wr W9).1
   exact o_rv X9 hx hby hrt hlk q16_210 (by rw [e9]; exact ⟨hd, f, by_, hv, g, rfl, N9, K29, ⟨f21, f22, f23, f24, f25, f26, f27, f28, Fw9⟩, f11, f18, f20, P12, P15, P16⟩)
 · refine o_in X6 hx hby q16_64 ((if0 _ _).trans (flt (fun q => absurd ((lw_gt _ _).mp q) hc7)).2.2.1) ?_
   refine o_ic X6 hx hby 1 q16_67 ?_
   refine o_gt X6 hx hby q16_68 72 ?_
   refine o_is X6 hx hby q16_72 #[vR aH, vR aE, vI n, vI 1] ?_
   have := (mt Int64.lt_iff_toInt_lt.mpr hc7)
   have := c_i2l n
   refine sg64 l Z a0 hw aH aE M mb aS aG hd by_ ls f aB sq n aR aL bd hv aA g h0 n0 Z0 P0 P1 P2 P3 P4 P5 P6 P7 P8 P9 P10 P11 P12 P13 P14 P15 P16 (show 1 ≤ M.toInt from by omega) (show n.toInt ≤ mb.toInt from by omega) (show bd.toInt < n.toInt + 128 from by omega) hx hby hml hZ hown X6 e6 N1 (fun T31 L31 hdq32 fq33 byq34 hvq35 gq36 X31 N31 Kq31 p31_0 p31_1 p31_2 p31_3 p31_4 p31_5 p31_6 => ?_)
   have wx37 : own_exs Z _ [aH, aG, aR, aS, aL, aA] ocl_6 := ⟨(P0.1), P1.exa, P3.exR, P3.exS, P3.exL, P4.exa, trivial⟩
   have ni38 := own_nin (P2.1) wx37 nc_14
   have ni39 := own_nin P2.exB wx37 nc_15
   have f40 := P2.keep Kq31 ni38 ni39
   have K41 := own_ktr (Keep.refl h0 [aH, aG, aR, aS, aL, aA]) Kq31
   have z42 := Nat.le_trans Z0 Kq31.1
   exact o_rv X31 hx hby hrt hlk q16_210 ⟨hdq32, fq33, byq34, hvq35, gq36, rfl, N31, K41, p31_0, p31_1, p31_2, p31_3, p31_4, p31_5, p31_6⟩
def Q81 (Z : State) (aH aE : Addr) (M : Int32) (mb : Int64) (aS aG : Addr) (hd : Int32) (by_ ls : Int64) (f : Nat → Value) (aB : Addr) (sq : Int64) (n : Int32) (aR aL : Addr) (bd hv : Int64) (aA : Addr) (g : Nat → Value) (h0 : Heap) (n0 : Nat) (v : Option Value) (h : Heap) (L : List Loc) : Prop := ∃ hdq : Int32, ∃ fq : Nat → Value, ∃ byq : Int64, ∃ hvq : Int64, ∃ gq : Nat → Value, v = none ∧ Fr n0 L ∧ Keep h0 h [aH, aG, aR, aS, aL, aA] ∧ (own_Hi Z h aH M mb aS aG hdq (1 : Int32) byq sq) ∧ (own_RE Z h aG M fq) ∧ (fq hdq.toNatClampNeg = .ref aE) ∧ (own_Rm Z h aR aS aL aA bd hvq (0 : Int32) (1 : Int32)) ∧ (own_RO Z h aA (10 : Int32) gq) ∧ (gq (0 : Int32).toNatClampNeg = .ref aS) ∧ (0 ≤ hdq.toInt ∧ hdq.toInt < M.toInt) ∧ (byq.toInt = n.toInt) ∧ (hvq.toInt = n.toInt + 128)
set_option maxRecDepth 65536 in
set_option maxHeartbeats 40000000 in
theorem rm81 (l Z a0) (hw : oW a0 Z) (ws) (aH aE : Addr) (M : Int32) (mb : Int64) (aS aG : Addr) (hd : Int32) (by_ ls : Int64) (f : Nat → Value) (aB : Addr) (sq : Int64) (n : Int32) (aR aL : Addr) (bd hv : Int64) (aA : Addr) (g : Nat → Value) (h0 : Heap) (n0 : Nat) (Z0 : n0 ≤ h0.size) (P0 : own_Hi Z h0 aH M mb aS aG hd (0 : Int32) by_ ls) (P1 : own_RE Z h0 aG M f) (P2 : own_Ev Z h0 aE aB sq n) (P3 : own_Rm Z h0 aR aS aL aA bd hv (-1 : Int32) (0 : Int32)) (P4 : own_RO Z h0 aA (10 : Int32) g) (P5 : n0 ≤ aH) (P6 : n0 ≤ aG) (P7 : n0 ≤ aR) (P8 : n0 ≤ aS) (P9 : n0 ≤ aL) (P10 : n0 ≤ aA) (P11 : 0 ≤ M.toInt ∧ M.toInt ≤ 7) (P12 : 0 ≤ hd.toInt ∧ hd.toInt < M.toInt) (P13 : 0 ≤ n.toInt ∧ n.toInt ≤ 7) (P14 : 0 ≤ mb.toInt) (P15 : by_.toInt = 0) (P16 : hv.toInt = 0) (P17 : (1 ≤ M.toInt ∧ n.toInt ≤ mb.toInt ∧ n.toInt + 128 ≤ bd.toInt)) :
   own_Met l own_y18 kc16 4 none ws own_r7 #[(.ref aH), (.ref aE)] Z h0 (Q81 Z aH aE M mb aS aG hd by_ ls f aB sq n aR aL bd hv aA g h0 n0) := by
 refine own_bd #[vR aH, vR aE, .unset, .unset] (plainFor_of_name pn_8) fun p e s m below meth c s₁ hx hby hml hrt hlk hZ hown hnm X0 e0 => ?_
 have N0 := Fr.nil n0
 refine o_al X0 hx hby q16_0 ?_
 refine o_cV X0 hx hZ hown hw hml hby (rm49 l Z a0 hw [] aE aB h0 n0 Z0 (P2.2.2.1)) (P2.1) e0 126 127 129 128 130 8 0 q16_1 [] [] pd_21 hy_8 fun v1 T1 L1 hQ1 X1 => ?_
 obtain ⟨rfl, Nq1, eq1⟩ := hQ1
 have N1 := Fr.app N0 Nq1
 refine oV ?_
 refine o_nB X1 hx hZ hby eq1 (P2.2.2.2) q16_4 ?_
 refine o_is X1 hx hby q16_5 #[vR aH, vR aE, vI n, .unset] ?_
 refine o_al X1 hx hby q16_6 ?_
 refine o_g X1 hx hZ hown hw hby eq1 (P0.2.2.2.2.2.2.1) 114 q16_7 fun T3 X3 e3 => ?_
 refine o_iy X3 hx hby q16_10 46 ((if0 _ _).trans (flt (by decide)).2.2.2) ?_
 refine o_al X3 hx hby q16_46 ?_
 refine o_g X3 hx hZ hown hw hby e3 (P0.2.2.2.2.2.2.1) 114 q16_47 fun T4 X4 e4 => ?_
 refine o_al X4 hx hby q16_50 ?_
 refine o_g X4 hx hZ hown hw hby e4 (P0.2.1) 79 q16_51 fun T5 X5 e5 => ?_
 have : (0 : Int32).toInt = 0 := (by decide)
 refine o_cn X5 hx hby q16_54 ((tlt (show (0 : Int32) < M from Int32.lt_iff_toInt_lt.mpr (by omega))).2.1) ?_
 refine o_il X5 hx hby q16_57 ?_
 refine o_i2l X5 hx hby q16_58 ?_
 refine o_al X5 hx hby q16_59 ?_
 refine o_g X5 hx hZ hown hw hby e5 (P0.2.2.1) 81 q16_60 fun T6 X6 e6 => ?_
 refine o_lcmp X6 hx hby q16_63 ?_
 have := c_i2l n
 refine o_in X6 hx hby q16_64 ((if0 _ _).trans (flt (fun q => absurd ((lw_gt _ _).mp q) (show ¬ (mb < (n.toInt64)) from mt Int64.lt_iff_toInt_lt.mp (by omega)))).2.2.1) ?_
 refine o_ic X6 hx hby 1 q16_67 ?_
 refine o_gt X6 hx hby q16_68 72 ?_
 refine o_is X6 hx hby q16_72 #[vR aH, vR aE, vI n, vI 1] ?_
 refine sg65 l Z a0 hw aH aE M mb aS aG hd by_ ls f aB sq n aR aL bd hv aA g h0 n0 Z0 P0 P1 P2 P3 P4 P5 P6 P7 P8 P9 P10 P11 P12 P13 P14 P15 P16 (show 1 ≤ M.toInt from by omega) (show n.toInt ≤ mb.toInt from by omega) (show n.toInt + 128 ≤ bd.toInt from by omega) hx hby hml hZ hown X6 e6 N1 (fun T7 L7 hdq8 fq9 byq10 hvq11 gq12 X7 N7 Kq7 p7_0 p7_1 p7_2 p7_3 p7_4 p7_5 p7_6 p7_7 p7_8 => ?_)
 have wx13 : own_exs Z _ [aH, aG, aR, aS, aL, aA] ocl_6 := ⟨(P0.1), P1.exa, P3.exR, P3.exS, P3.exL, P4.exa, trivial⟩
 have ni14 := own_nin (P2.1) wx13 nc_14
 have ni15 := own_nin P2.exB wx13 nc_15
 have f16 := P2.keep Kq7 ni14 ni15
 have K17 := own_ktr (Keep.refl h0 [aH, aG, aR, aS, aL, aA]) Kq7
 have z18 := Nat.le_trans Z0 Kq7.1
 exact o_rv X7 hx hby hrt hlk q16_210 ⟨hdq8, fq9, byq10, hvq11, gq12, rfl, N7, K17, p7_0, p7_1, p7_2, p7_3, p7_4, p7_5, p7_6, p7_7, p7_8⟩
def Q82 (Z : State) (aH aE : Addr) (M : Int32) (mb : Int64) (aS aG : Addr) (hd : Int32) (by_ ls : Int64) (f : Nat → Value) (aE1 aB1 : Addr) (sq1 : Int64) (n1 : Int32) (aB : Addr) (sq : Int64) (n : Int32) (aR aL : Addr) (bd hv : Int64) (aA : Addr) (g : Nat → Value) (h0 : Heap) (n0 : Nat) (v : Option Value) (h : Heap) (L : List Loc) : Prop := ∃ hdq : Int32, ∃ fq : Nat → Value, ∃ byq : Int64, ∃ hvq : Int64, ∃ gq : Nat → Value, v = none ∧ Fr n0 L ∧ Keep h0 h [aH, aG, aR, aS, aL, aA] ∧ (own_Hi Z h aH M mb aS aG hdq (0 : Int32) byq sq) ∧ (own_RE Z h aG M fq) ∧ (own_Rm Z h aR aS aL aA bd hvq (-1 : Int32) (0 : Int32)) ∧ (own_RO Z h aA (10 : Int32) gq) ∧ (0 ≤ hdq.toInt ∧ hdq.toInt < M.toInt) ∧ (byq.toInt = 0) ∧ (hvq.toInt = 0)
set_option maxRecDepth 65536 in
set_option maxHeartbeats 40000000 in
theorem rm82 (l Z a0) (hw : oW a0 Z) (ws) (aH aE : Addr) (M : Int32) (mb : Int64) (aS aG : Addr) (hd : Int32) (by_ ls : Int64) (f : Nat → Value) (aE1 aB1 : Addr) (sq1 : Int64) (n1 : Int32) (aB : Addr) (sq : Int64) (n : Int32) (aR aL : Addr) (bd hv : Int64) (aA : Addr) (g : Nat → Value) (h0 : Heap) (n0 : Nat) (Z0 : n0 ≤ h0.size) (P0 : own_Hi Z h0 aH M mb aS aG hd (1 : Int32) by_ ls) (P1 : own_RE Z h0 aG M f) (P2 : f hd.toNatClampNeg = .ref aE1) (P3 : own_Ev Z h0 aE1 aB1 sq1 n1) (P4 : own_Ev Z h0 aE aB sq n) (P5 : own_Rm Z h0 aR aS aL aA bd hv (0 : Int32) (1 : Int32)) (P6 : own_RO Z h0 aA (10 : Int32) g) (P7 : g (0 : Int32).toNatClampNeg = .ref aS) (P8 : n0 ≤ aH) (P9 : n0 ≤ aG) (P10 : n0 ≤ aR) (P11 : n0 ≤ aS) (P12 : n0 ≤ aL) (P13 : n0 ≤ aA) (P14 : 0 ≤ M.toInt ∧ M.toInt ≤ 7) (P15 : 0 ≤ hd.toInt ∧ hd.toInt < M.toInt) (P16 : 0 ≤ n1.toInt ∧ n1.toInt ≤ 7) (P17 : 0 ≤ n.toInt ∧ n.toInt ≤ 7) (P18 : 0 ≤ mb.toInt) (P19 : by_.toInt = n1.toInt) (P20 : hv.toInt = n1.toInt + 128) (P21 : 1 ≤ M.toInt) (P22 : ¬ (1 ≤ M.toInt ∧ n.toInt ≤ mb.toInt ∧ n.toInt + 128 ≤ bd.toInt)) :
   own_Met l own_y18 kc16 4 none ws own_r7 #[(.ref aH), (.ref aE)] Z h0 (Q82 Z aH aE M mb aS aG hd by_ ls f aE1 aB1 sq1 n1 aB sq n aR aL bd hv aA g h0 n0) := by
 refine own_bd #[vR aH, vR aE, .unset, .unset] (plainFor_of_name pn_8) fun p e s m below meth c s₁ hx hby hml hrt hlk hZ hown hnm X0 e0 => ?_
 have N0 := Fr.nil n0
 refine o_al X0 hx hby q16_0 ?_
 refine o_cV X0 hx hZ hown hw hml hby (rm49 l Z a0 hw [] aE aB h0 n0 Z0 (P4.2.2.1)) (P4.1) e0 126 127 129 128 130 8 0 q16_1 [] [] pd_21 hy_8 fun v1 T1 L1 hQ1 X1 => ?_
 obtain ⟨rfl, Nq1, eq1⟩ := hQ1
 have N1 := Fr.app N0 Nq1
 refine oV ?_
 refine o_nB X1 hx hZ hby eq1 (P4.2.2.2) q16_4 ?_
 refine o_is X1 hx hby q16_5 #[vR aH, vR aE, vI n, .unset] ?_
 refine own_join (α := Unit) X1 eq1 (fun T' _ => T'.setTop (mkF m 39 #[vR aH, vR aE, vI n, .unset] [])) (fun _ => True) ?_ ?_
 · intro T3 _ X3 e3 _
   show oG _ _ _ _ (T3.setTop (mkF m 39 #[vR aH, vR aE, vI n, .unset] []))
   refine o_al X3 hx hby q16_39 ?_
   refine o_cP X3 hx hZ hown hw hml hby (rm60 l Z a0 hw [] aH M mb aS aG hd by_ ls f aE1 aB1 sq1 n1 aR aL aA g bd hv h0 n0 Z0 P0 P1 P2 P3 P5 P6 P7 P8 P9 P10 P11 P12 P13 P14 P15 P16 P19 P20) (P0.1) e3 263 264 27 265 266 28 0 q16_40 [] [] pd_7 hy_9 fun v4 T4 L4 hQ4 X4 => ?_
   obtain ⟨fq5, byq6, hvq7, gq8, rfl, Nq4, Kq4, p4_0, p4_1, p4_2, p4_3, p4_4, p4_5⟩ := hQ4
   have N4 := Fr.app N1 Nq4
   have wx9 : own_exs Z _ [aH, aG, aR, aS, aL, aA] ocl_6 := ⟨(P0.1), P1.exa, P5.exR, P5.exS, P5.exL, P6.exa, trivial⟩
   have ni10 := own_nin (P3.1) wx9 nc_14
   have ni11 := own_nin P3.exB wx9 nc_15
   have f12 := P3.keep Kq4 ni10 ni11
   have ni13 := own_nin (P4.1) wx9 nc_14
   have ni14 := own_nin P4.exB wx9 nc_15
   have f15 := P4.keep Kq4 ni13 ni14
   have K16 := own_ktr (Keep.refl h0 [aH, aG, aR, aS, aL, aA]) Kq4
   have z17 := Nat.le_trans Z0 Kq4.1
   refine oN ?_
   refine o_gt X4 hx hby q16_43 6 ?_
   have : (1 : Int32).toInt = 1 := (by decide)
   have := And.intro (c_iadd hd (1 : Int32)) (rng32 (hd + (1 : Int32)))
   have := c_iremV (hd + (1 : Int32)) M
   refine sg73 l Z a0 hw aH aE M mb aS aG ((hd + (1 : Int32)) % M) byq6 ls fq5 aB sq n aR aL bd hvq7 aA gq8 T4.heap n0 z17 p4_0 p4_1 f15 p4_2 p4_3 P8 P9 P10 P11 P12 P13 P14 (show 0 ≤ ((hd + (1 : Int32)) % M).toInt ∧ ((hd + (1 : Int32)) % M).toInt < M.toInt from by omega) P17 P18 p4_4 p4_5 P22 hx hby hml hZ hown X4 rfl N4 (fun T18 L18 hdq19 fq20 byq21 hvq22 gq23 X18 N18 Kq18 p18_0 p18_1 p18_2 p18_3 p18_4 p18_5 p18_6 => ?_)
   have f24 := f12.keep Kq18 ni10 ni11
   have f25 := f15.keep Kq18 ni13 ni14
   have K26 := own_ktr K16 Kq18
   have z27 := Nat.le_trans z17 Kq18.1
   exact o_rv X18 hx hby hrt hlk q16_210 ⟨hdq19, fq20, byq21, hvq22, gq23, rfl, N18, K26, p18_0, p18_1, p18_2, p18_3, p18_4, p18_5, p18_6⟩
 · intro J3
   refine o_al X1 hx hby q16_6 ?_
   refine o_g X1 hx hZ hown hw hby eq1 (P0.2.2.2.2.2.2.1) 114 q16_7 fun T28 X28 e28 => ?_
   refine o_in X28 hx hby q16_10 ((if0 _ _).trans (tlt (by decide)).2.2.2) ?_
   refine o_al X28 hx hby q16_13 ?_
   refine o_g X28 hx hZ hown hw hby e28 (P0.2.2.2.2.2.2.1) 114 q16_14 fun T29 X29 e29 => ?_
   refine o_al X29 hx hby q16_17 ?_
   refine o_g X29 hx hZ hown hw hby e29 (P0.2.1) 79 q16_18 fun T30 X30 e30 => ?_
   by_cases hc31 : (1 : Int32) = M
   · refine o_cy X30 hx hby q16_21 39 ((teq hc31).1) ?_
     exact J3 _ () X30 e30 trivial
   · refine o_cn X30 hx hby q16_21 ((feq hc31).1) ?_
     refine o_al X30 hx hby q16_24 ?_
     refine o_g X30 hx hZ hown hw hby e30 (P0.2.2.2.2.2.2.2.1) 248 q16_25 fun T32 X32 e32 => ?_
     refine o_il X32 hx hby q16_28 ?_
     refine o_i2l X32 hx hby q16_29 ?_
     refine o_ladd X32 hx hby q16_30 ?_
     refine o_al X32 hx hby q16_31 ?_
     refine o_g X32 hx hZ hown hw hby e32 (P0.2.2.1) 81 q16_32 fun T33 X33 e33 => ?_
     refine o_lcmp X33 hx hby q16_35 ?_
     by_cases hc34 : mb < (by_ + (n.toInt64))
     · refine o_in X33 hx hby q16_36 ((if0 _ _).trans (tlt ((lw_gt _ _).mpr hc34)).2.2.2) ?_
       exact J3 _ () X33 e33 trivial
     · refine o_iy X33 hx hby q16_36 46 ((if0 _ _).trans (flt (fun q => absurd ((lw_gt _ _).mp q) hc34)).2.2.2) ?_
       refine o_al X33 hx hby q16_46 ?_
       refine o_g X33 hx hZ hown hw hby e33 (P0.2.2.2.2.2.2.1) 114 q16_47 fun T35 X35 e35 => ?_
       refine o_al X35 hx hby q16_50 ?_
       refine o_g X35 hx hZ hown hw hby e35 (P0.2.1) 79 q16_51 fun T36 X36 e36 => ?_
       have := (mt Int32.toInt_inj.mp hc31)
       have := (mt Int64.lt_iff_toInt_lt.mpr hc34)
       have : (1 : Int32).toInt = 1 := (by decide)
       have := c_i2l n
       have := And.intro (c_ladd by_ (n).toInt64) (rng64 (by_ + (n).toInt64))
       refine o_cn X36 hx hby q16_54 ((tlt (show (1 : Int32) < M from Int32.lt_iff_toInt_lt.mpr (by omega))).2.1) ?_
       refine o_il X36 hx hby q16_57 ?_
       refine o_i2l X36 hx hby q16_58 ?_
       refine o_al X36 hx hby q16_59 ?_
       refine o_g X36 hx hZ hown hw hby e36 (P0.2.2.1) 81 q16_60 fun T37 X37 e37 => ?_
       refine o_lcmp X37 hx hby q16_63 ?_
       refine o_in X37 hx hby q16_64 ((if0 _ _).trans (flt (fun q => absurd ((lw_gt _ _).mp q) (show ¬ (mb < (n.toInt64)) from mt Int64.lt_iff_toInt_lt.mp (by omega)))).2.2.1) ?_
       refine o_ic X37 hx hby 1 q16_67 ?_
       refine o_gt X37 hx hby q16_68 72 ?_
       refine o_is X37 hx hby q16_72 #[vR aH, vR aE, vI n, vI 1] ?_
       refine sg66 l Z a0 hw aH aE M mb aS aG hd by_ ls f aE1 aB1 sq1 n1 aB sq n aR aL bd hv aA g h0 n0 Z0 P0 P1 P2 P3 P4 P5 P6 P7 P8 P9 P10 P11 P12 P13 P14 P15 P16 P17 P18 P19 P20 (show 2 ≤ M.toInt from by omega) (show n1.toInt + n.toInt ≤ mb.toInt from by omega) (show bd.toInt < n.toInt + 128 from by omega) hx hby hml hZ hown X37 e37 N1 (fun T38 L38 hdq39 fq40 byq41 hvq42 gq43 X38 N38 Kq38 p38_0 p38_1 p38_2 p38_3 p38_4 p38_5 p38_6 => ?_)
       have wx44 : own_exs Z _ [aH, aG, aR, aS, aL, aA] ocl_6 := ⟨(P0.1), P1.exa, P5.exR, P5.exS, P5.exL, P6.exa, trivial⟩
       have ni45 := own_nin (P3.1) wx44 nc_14
       have ni46 := own_nin P3.exB wx44 nc_15
       have f47 := P3.keep Kq38 ni45 ni46
       have ni48 := own_nin (P4.1) wx44 nc_14
       have ni49 := own_nin P4.exB wx44 nc_15
       have f50 := P4.keep Kq38 ni48 ni49
       have K51 := own_ktr (Keep.refl h0 [aH, aG, aR, aS, aL, aA]) Kq38
       have z52 := Nat.le_trans Z0 Kq38.1
       exact o_rv X38 hx hby hrt hlk q16_210 ⟨hdq39, fq40, byq41, hvq42, gq43, rfl, N38, K51, p38_0, p38_1, p38_2, p38_3, p38_4, p38_5, p38_6⟩
def Q83 (Z : State) (aH aE : Addr) (M : Int32) (mb : Int64) (aS aG : Addr) (hd : Int32) (by_ ls : Int64) (f : Nat → Value) (aE1 aB1 : Addr) (sq1 : Int64) (n1 : Int32) (aB : Addr) (sq : Int64) (n : Int32) (aR aL : Addr) (bd hv : Int64) (aA : Addr) (g : Nat → Value) (h0 : Heap) (n0 : Nat) (v : Option Value) (h : Heap) (L : List Loc) : Prop := ∃ hdq : Int32, ∃ fq : Nat → Value, ∃ byq : Int64, ∃ hvq : Int64, ∃ gq : Nat → Value, v = none ∧ Fr n0 L ∧ Keep h0 h [aH, aG, aR, aS, aL, aA] ∧ (own_Hi Z h aH M mb aS aG hdq (1 : Int32) byq sq) ∧ (own_RE Z h aG M fq) ∧ (fq hdq.toNatClampNeg = .ref aE) ∧ (own_Rm Z h aR aS aL aA bd hvq (0 : Int32) (1 : Int32)) ∧ (own_RO Z h aA (10 : Int32) gq) ∧ (gq (0 : Int32).toNatClampNeg = .ref aS) ∧ (0 ≤ hdq.toInt ∧ hdq.toInt < M.toInt) ∧ (byq.toInt = n.toInt) ∧ (hvq.toInt = n.toInt + 128)
set_option maxRecDepth 65536 in
set_option maxHeartbeats 40000000 in
theorem rm83 (l Z a0) (hw : oW a0 Z) (ws) (aH aE : Addr) (M : Int32) (mb : Int64) (aS aG : Addr) (hd : Int32) (by_ ls : Int64) (f : Nat → Value) (aE1 aB1 : Addr) (sq1 : Int64) (n1 : Int32) (aB : Addr) (sq : Int64) (n : Int32) (aR aL : Addr) (bd hv : Int64) (aA : Addr) (g : Nat → Value) (h0 : Heap) (n0 : Nat) (Z0 : n0 ≤ h0.size) (P0 : own_Hi Z h0 aH M mb aS aG hd (1 : Int32) by_ ls) (P1 : own_RE Z h0 aG M f) (P2 : f hd.toNatClampNeg = .ref aE1) (P3 : own_Ev Z h0 aE1 aB1 sq1 n1) (P4 : own_Ev Z h0 aE aB sq n) (P5 : own_Rm Z h0 aR aS aL aA bd hv (0 : Int32) (1 : Int32)) (P6 : own_RO Z h0 aA (10 : Int32) g) (P7 : g (0 : Int32).toNatClampNeg = .ref aS) (P8 : n0 ≤ aH) (P9 : n0 ≤ aG) (P10 : n0 ≤ aR) (P11 : n0 ≤ aS) (P12 : n0 ≤ aL) (P13 : n0 ≤ aA) (P14 : 0 ≤ M.toInt ∧ M.toInt ≤ 7) (P15 : 0 ≤ hd.toInt ∧ hd.toInt < M.toInt) (P16 : 0 ≤ n1.toInt ∧ n1.toInt ≤ 7) (P17 : 0 ≤ n.toInt ∧ n.toInt ≤ 7) (P18 : 0 ≤ mb.toInt) (P19 : by_.toInt = n1.toInt) (P20 : hv.toInt = n1.toInt + 128) (P21 : 1 ≤ M.toInt) (P22 : (1 ≤ M.toInt ∧ n.toInt ≤ mb.toInt ∧ n.toInt + 128 ≤ bd.toInt)) (P23 : ¬ (2 ≤ M.toInt ∧ n1.toInt + n.toInt ≤ mb.toInt ∧ n1.toInt + n.toInt + 256 ≤ bd.toInt)) :
   own_Met l own_y18 kc16 4 none ws own_r7 #[(.ref aH), (.ref aE)] Z h0 (Q83 Z aH aE M mb aS aG hd by_ ls f aE1 aB1 sq1 n1 aB sq n aR aL bd hv aA g h0 n0) := by
 refine own_bd #[vR aH, vR aE, .unset, .unset] (plainFor_of_name pn_8) fun p e s m below meth c s₁ hx hby hml hrt hlk hZ hown hnm X0 e0 => ?_
 have N0 := Fr.nil n0
 refine o_al X0 hx hby q16_0 ?_
 refine o_cV X0 hx hZ hown hw hml hby (rm49 l Z a0 hw [] aE aB h0 n0 Z0 (P4.2.2.1)) (P4.1) e0 126 127 129 128 130 8 0 q16_1 [] [] pd_21 hy_8 fun v1 T1 L1 hQ1 X1 => ?_
 obtain ⟨rfl, Nq1, eq1⟩ := hQ1
 have N1 := Fr.app N0 Nq1
 refine oV ?_
 refine o_nB X1 hx hZ hby eq1 (P4.2.2.2) q16_4 ?_
 refine o_is X1 hx hby q16_5 #[vR aH, vR aE, vI n, .unset] ?_
 refine own_join (α := Unit) X1 eq1 (fun T' _ => T'.setTop (mkF m 39 #[vR aH, vR aE, vI n, .unset] [])) (fun _ => True) ?_ ?_
 · intro T3 _ X3 e3 _
   show oG _ _ _ _ (T3.setTop (mkF m 39 #[vR aH, vR aE, vI n, .unset] []))
   refine o_al X3 hx hby q16_39 ?_
   refine o_cP X3 hx hZ hown hw hml hby (rm60 l Z a0 hw [] aH M mb aS aG hd by_ ls f aE1 aB1 sq1 n1 aR aL aA g bd hv h0 n0 Z0 P0 P1 P2 P3 P5 P6 P7 P8 P9 P10 P11 P12 P13 P14 P15 P16 P19 P20) (P0.1) e3 263 264 27 265 266 28 0 q16_40 [] [] pd_7 hy_9 fun v4 T4 L4 hQ4 X4 => ?_
   obtain ⟨fq5, byq6, hvq7, gq8, rfl, Nq4, Kq4, p4_0, p4_1, p4_2, p4_3, p4_4, p4_5⟩ := hQ4
   have N4 := Fr.app N1 Nq4
   have wx9 : own_exs Z _ [aH, aG, aR, aS, aL, aA] ocl_6 := ⟨(P0.1), P1.exa, P5.exR, P5.exS, P5.exL, P6.exa, trivial⟩
   have ni10 := own_nin (P3.1) wx9 nc_14
   have ni11 := own_nin P3.exB wx9 nc_15
   have f12 := P3.keep Kq4 ni10 ni11
   have ni13 := own_nin (P4.1) wx9 nc_14
   have ni14 := own_nin P4.exB wx9 nc_15
   have f15 := P4.keep Kq4 ni13 ni14
   have K16 := own_ktr (Keep.refl h0 [aH, aG, aR, aS, aL, aA]) Kq4
   have z17 := Nat.le_trans Z0 Kq4.1
   refine oN ?_
   refine o_gt X4 hx hby q16_43 6 ?_
   have : (1 : Int32).toInt = 1 := (by decide)
   have := And.intro (c_iadd hd (1 : Int32)) (rng32 (hd + (1 : Int32)))
   have := c_iremV (hd + (1 : Int32)) M
   refine sg74 l Z a0 hw aH aE M mb aS aG ((hd + (1 : Int32)) % M) byq6 ls fq5 aB sq n aR aL bd hvq7 aA gq8 T4.heap n0 z17 p4_0 p4_1 f15 p4_2 p4_3 P8 P9 P10 P11 P12 P13 P14 (show 0 ≤ ((hd + (1 : Int32)) % M).toInt ∧ ((hd + (1 : Int32)) % M).toInt < M.toInt from by omega) P17 P18 p4_4 p4_5 P22 hx hby hml hZ hown X4 rfl N4 (fun T18 L18 hdq19 fq20 byq21 hvq22 gq23 X18 N18 Kq18 p18_0 p18_1 p18_2 p18_3 p18_4 p18_5 p18_6 p18_7 p18_8 => ?_)
   have f24 := f12.keep Kq18 ni10 ni11
   have f25 := f15.keep Kq18 ni13 ni14
   have K26 := own_ktr K16 Kq18
   have z27 := Nat.le_trans z17 Kq18.1
   exact o_rv X18 hx hby hrt hlk q16_210 ⟨hdq19, fq20, byq21, hvq22, gq23, rfl, N18, K26, p18_0, p18_1, p18_2, p18_3, p18_4, p18_5, p18_6, p18_7, p18_8⟩
 · intro J3
   refine o_al X1 hx hby q16_6 ?_
   refine o_g X1 hx hZ hown hw hby eq1 (P0.2.2.2.2.2.2.1) 114 q16_7 fun T28 X28 e28 => ?_
   refine o_in X28 hx hby q16_10 ((if0 _ _).trans (tlt (by decide)).2.2.2) ?_
   refine o_al X28 hx hby q16_13 ?_
   refine o_g X28 hx hZ hown hw hby e28 (P0.2.2.2.2.2.2.1) 114 q16_14 fun T29 X29 e29 => ?_
   refine o_al X29 hx hby q16_17 ?_
   refine o_g X29 hx hZ hown hw hby e29 (P0.2.1) 79 q16_18 fun T30 X30 e30 => ?_
   by_cases hc31 : (1 : Int32) = M
   · refine o_cy X30 hx hby q16_21 39 ((teq hc31).1) ?_
     exact J3 _ () X30 e30 trivial
   · refine o_cn X30 hx hby q16_21 ((feq hc31).1) ?_
     refine o_al X30 hx hby q16_24 ?_
     refine o_g X30 hx hZ hown hw hby e30 (P0.2.2.2.2.2.2.2.1) 248 q16_25 fun T32 X32 e32 => ?_
     refine o_il X32 hx hby q16_28 ?_
     refine o_i2l X32 hx hby q16_29 ?_
     refine o_ladd X32 hx hby q16_30 ?_
     refine o_al X32 hx hby q16_31 ?_
     refine o_g X32 hx hZ hown hw hby e32 (P0.2.2.1) 81 q16_32 fun T33 X33 e33 => ?_
     refine o_lcmp X33 hx hby q16_35 ?_
     by_cases hc34 : mb < (by_ + (n.toInt64))
     · refine o_in X33 hx hby q16_36 ((if0 _ _).trans (tlt ((lw_gt _ _).mpr hc34)).2.2.2) ?_
       exact J3 _ () X33 e33 trivial
     · refine o_iy X33 hx hby q16_36 46 ((if0 _ _).trans (flt (fun q => absurd ((lw_gt _ _).mp q) hc34)).2.2.2) ?_
       refine o_al X33 hx hby q16_46 ?_
       refine o_g X33 hx hZ hown hw hby e33 (P0.2.2.2.2.2.2.1) 114 q16_47 fun T35 X35 e35 => ?_
       refine o_al X35 hx hby q16_50 ?_
       refine o_g X35 hx hZ hown hw hby e35 (P0.2.1) 79 q16_51 fun T36 X36 e36 => ?_
       have := (mt Int32.toInt_inj.mp hc31)
       have := (mt Int64.lt_iff_toInt_lt.mpr hc34)
       have : (1 : Int32).toInt = 1 := (by decide)
       have := c_i2l n
       have := And.intro (c_ladd by_ (n).toInt64) (rng64 (by_ + (n).toInt64))
       refine o_cn X36 hx hby q16_54 ((tlt (show (1 : Int32) < M from Int32.lt_iff_toInt_lt.mpr (by omega))).2.1) ?_
       refine o_il X36 hx hby q16_57 ?_
       refine o_i2l X36 hx hby q16_58 ?_
       refine o_al X36 hx hby q16_59 ?_
       refine o_g X36 hx hZ hown hw hby e36 (P0.2.2.1) 81 q16_60 fun T37 X37 e37 => ?_
       refine o_lcmp X37 hx hby q16_63 ?_
       refine o_in X37 hx hby q16_64 ((if0 _ _).trans (flt (fun q => absurd ((lw_gt _ _).mp q) (show ¬ (mb < (n.toInt64)) from mt Int64.lt_iff_toInt_lt.mp (by omega)))).2.2.1) ?_
       refine o_ic X37 hx hby 1 q16_67 ?_
       refine o_gt X37 hx hby q16_68 72 ?_
       refine o_is X37 hx hby q16_72 #[vR aH, vR aE, vI n, vI 1] ?_
       refine sg67 l Z a0 hw aH aE M mb aS aG hd by_ ls f aE1 aB1 sq1 n1 aB sq n aR aL bd hv aA g h0 n0 Z0 P0 P1 P2 P3 P4 P5 P6 P7 P8 P9 P10 P11 P12 P13 P14 P15 P16 P17 P18 P19 P20 (show 2 ≤ M.toInt from by omega) (show n1.toInt + n.toInt ≤ mb.toInt from by omega) (show n.toInt + 128 ≤ bd.toInt from by omega) (show bd.toInt < n1.toInt + n.toInt + 256 from by omega) hx hby hml hZ hown X37 e37 N1 (fun T38 L38 hdq39 fq40 byq41 hvq42 gq43 X38 N38 Kq38 p38_0 p38_1 p38_2 p38_3 p38_4 p38_5 p38_6 p38_7 p38_8 => ?_)
       have wx44 : own_exs Z _ [aH, aG, aR, aS, aL, aA] ocl_6 := ⟨(P0.1), P1.exa, P5.exR, P5.exS, P5.exL, P6.exa, trivial⟩
       have ni45 := own_nin (P3.1) wx44 nc_14
       have ni46 := own_nin P3.exB wx44 nc_15
       have f47 := P3.keep Kq38 ni45 ni46
       have ni48 := own_nin (P4.1) wx44 nc_14
       have ni49 := own_nin P4.exB wx44 nc_15
       have f50 := P4.keep Kq38 ni48 ni49
       have K51 := own_ktr (Keep.refl h0 [aH, aG, aR, aS, aL, aA]) Kq38
       have z52 := Nat.le_trans Z0 Kq38.1
       exact o_rv X38 hx hby hrt hlk q16_210 ⟨hdq39, fq40, byq41, hvq42, gq43, rfl, N38, K51, p38_0, p38_1, p38_2, p38_3, p38_4, p38_5, p38_6, p38_7, p38_8⟩
def Q84 (Z : State) (aH aE : Addr) (M : Int32) (mb : Int64) (aS aG : Addr) (hd : Int32) (by_ ls : Int64) (f : Nat → Value) (aE1 aB1 : Addr) (sq1 : Int64) (n1 : Int32) (aB : Addr) (sq : Int64) (n : Int32) (aR aL : Addr) (bd hv : Int64) (aA : Addr) (g : Nat → Value) (h0 : Heap) (n0 : Nat) (v : Option Value) (h : Heap) (L : List Loc) : Prop := ∃ hdq : Int32, ∃ fq : Nat → Value, ∃ byq : Int64, ∃ hvq : Int64, ∃ gq : Nat → Value, v = none ∧ Fr n0 L ∧ Keep h0 h [aH, aG, aR, aS, aL, aA] ∧ (own_Hi Z h aH M mb aS aG hdq (2 : Int32) byq sq) ∧ (own_RE Z h aG M fq) ∧ (fq hdq.toNatClampNeg = .ref aE1) ∧ (fq ((hdq + (1 : Int32)) % M).toNatClampNeg = .ref aE) ∧ (own_Rm Z h aR aS aL aA bd hvq (0 : Int32) (1 : Int32)) ∧ (own_RO Z h aA (10 : Int32) gq) ∧ (gq (0 : Int32).toNatClampNeg = .ref aS) ∧ (0 ≤ hdq.toInt ∧ hdq.toInt < M.toInt) ∧ (byq.toInt = n1.toInt + n.toInt) ∧ (hvq.toInt = n1.toInt + n.toInt + 256)
set_option maxRecDepth 65536 in
set_option maxHeartbeats 40000000 in
theorem rm84 (l Z a0) (hw : oW a0 Z) (ws) (aH aE : Addr) (M : Int32) (mb : Int64) (aS aG : Addr) (hd : Int32) (by_ ls : Int64) (f : Nat → Value) (aE1 aB1 : Addr) (sq1 : Int64) (n1 : Int32) (aB : Addr) (sq : Int64) (n : Int32) (aR aL : Addr) (bd hv : Int64) (aA : Addr) (g : Nat → Value) (h0 : Heap) (n0 : Nat) (Z0 : n0 ≤ h0.size) (P0 : own_Hi Z h0 aH M mb aS aG hd (1 : Int32) by_ ls) (P1 : own_RE Z h0 aG M f) (P2 : f hd.toNatClampNeg = .ref aE1) (P3 : own_Ev Z h0 aE1 aB1 sq1 n1) (P4 : own_Ev Z h0 aE aB sq n) (P5 : own_Rm Z h0 aR aS aL aA bd hv (0 : Int32) (1 : Int32)) (P6 : own_RO Z h0 aA (10 : Int32) g) (P7 : g (0 : Int32).toNatClampNeg = .ref aS) (P8 : n0 ≤ aH) (P9 : n0 ≤ aG) (P10 : n0 ≤ aR) (P11 : n0 ≤ aS) (P12 : n0 ≤ aL) (P13 : n0 ≤ aA) (P14 : 0 ≤ M.toInt ∧ M.toInt ≤ 7) (P15 : 0 ≤ hd.toInt ∧ hd.toInt < M.toInt) (P16 : 0 ≤ n1.toInt ∧ n1.toInt ≤ 7) (P17 : 0 ≤ n.toInt ∧ n.toInt ≤ 7) (P18 : 0 ≤ mb.toInt) (P19 : by_.toInt = n1.toInt) (P20 : hv.toInt = n1.toInt + 128) (P21 : 1 ≤ M.toInt) (P22 : (2 ≤ M.toInt ∧ n1.toInt + n.toInt ≤ mb.toInt ∧ n1.toInt + n.toInt + 256 ≤ bd.toInt)) :
   own_Met l own_y18 kc16 4 none ws own_r7 #[(.ref aH), (.ref aE)] Z h0 (Q84 Z aH aE M mb aS aG hd by_ ls f aE1 aB1 sq1 n1 aB sq n aR aL bd hv aA g h0 n0) := by
 refine own_bd #[vR aH, vR aE, .unset, .unset] (plainFor_of_name pn_8) fun p e s m below meth c s₁ hx hby hml hrt hlk hZ hown hnm X0 e0 => ?_
 have N0 := Fr.nil n0
 refine o_al X0 hx hby q16_0 ?_
 refine o_cV X0 hx hZ hown hw hml hby (rm49 l Z a0 hw [] aE aB h0 n0 Z0 (P4.2.2.1)) (P4.1) e0 126 127 129 128 130 8 0 q16_1 [] [] pd_21 hy_8 fun v1 T1 L1 hQ1 X1 => ?_
 obtain ⟨rfl, Nq1, eq1⟩ := hQ1
 have N1 := Fr.app N0 Nq1
 refine oV ?_
 refine o_nB X1 hx hZ hby eq1 (P4.2.2.2) q16_4 ?_
 refine o_is X1 hx hby q16_5 #[vR aH, vR aE, vI n, .unset] ?_
 refine o_al X1 hx hby q16_6 ?_
 refine o_g X1 hx hZ hown hw hby eq1 (P0.2.2.2.2.2.2.1) 114 q16_7 fun T3 X3 e3 => ?_
 refine o_in X3 hx hby q16_10 ((if0 _ _).trans (tlt (by decide)).2.2.2) ?_
 refine o_al X3 hx hby q16_13 ?_
 refine o_g X3 hx hZ hown hw hby e3 (P0.2.2.2.2.2.2.1) 114 q16_14 fun T4 X4 e4 => ?_
 refine o_al X4 hx hby q16_17 ?_
 refine o_g X4 hx hZ hown hw hby e4 (P0.2.1) 79 q16_18 fun T5 X5 e5 => ?_
 have : (1 : Int32).toInt = 1 := (by decide)
 refine o_cn X5 hx hby q16_21 ((feq (show ¬ ((1 : Int32) = M) from mt (congrArg Int32.toInt) (by omega))).1) ?_
 refine o_al X5 hx hby q16_24 ?_
 refine o_g X5 hx hZ hown hw hby e5 (P0.2.2.2.2.2.2.2.1) 248 q16_25 fun T6 X6 e6 => ?_
 refine o_il X6 hx hby q16_28 ?_
 refine o_i2l X6 hx hby q16_29 ?_
 refine o_ladd X6 hx hby q16_30 ?_
 refine o_al X6 hx hby q16_31 ?_
 refine o_g X6 hx hZ hown hw hby e6 (P0.2.2.1) 81 q16_32 fun T7 X7 e7 => ?_
 refine o_lcmp X7 hx hby q16_35 ?_
 have := c_i2l n
 have := And.intro (c_ladd by_ (n).toInt64) (rng64 (by_ + (n).toInt64))
 refine o_iy X7 hx hby q16_36 46 ((if0 _ _).trans (flt (fun q => absurd ((lw_gt _ _).mp q) (show ¬ (mb < (by_ + (n.toInt64))) from mt Int64.lt_iff_toInt_lt.mp (by omega)))).2.2.2) ?_
 refine o_al X7 hx hby q16_46 ?_
 refine o_g X7 hx hZ hown hw hby e7 (P0.2.2.2.2.2.2.1) 114 q16_47 fun T8 X8 e8 => ?_
 refine o_al X8 hx hby q16_50 ?_
 refine o_g X8 hx hZ hown hw hby e8 (P0.2.1) 79 q16_51 fun T9 X9 e9 => ?_
 refine o_cn X9 hx hby q16_54 ((tlt (show (1 : Int32) < M from Int32.lt_iff_toInt_lt.mpr (by omega))).2.1) ?_
 refine o_il X9 hx hby q16_57 ?_
 refine o_i2l X9 hx hby q16_58 ?_
 refine o_al X9 hx hby q16_59 ?_
 refine o_g X9 hx hZ hown hw hby e9 (P0.2.2.1) 81 q16_60 fun T10 X10 e10 => ?_
 refine o_lcmp X10 hx hby q16_63 ?_
 refine o_in X10 hx hby q16_64 ((if0 _ _).trans (flt (fun q => absurd ((lw_gt _ _).mp q) (show ¬ (mb < (n.toInt64)) from mt Int64.lt_iff_toInt_lt.mp (by omega)))).2.2.1) ?_
 refine o_ic X10 hx hby 1 q16_67 ?_
 refine o_gt X10 hx hby q16_68 72 ?_
 refine o_is X10 hx hby q16_72 #[vR aH, vR aE, vI n, vI 1] ?_
 refine sg68 l Z a0 hw aH aE M mb aS aG hd by_ ls f aE1 aB1 sq1 n1 aB sq n aR aL bd hv aA g h0 n0 Z0 P0 P1 P2 P3 P4 P5 P6 P7 P8 P9 P10 P11 P12 P13 P14 P15 P16 P17 P18 P19 P20 (show 2 ≤ M.toInt from by omega) (show n1.toInt + n.toInt ≤ mb.toInt from by omega) (show n1.toInt + n.toInt + 256 ≤ bd.toInt from by omega) hx hby hml hZ hown X10 e10 N1 (fun T11 L11 hdq12 fq13 byq14 hvq15 gq16 X11 N11 Kq11 p11_0 p11_1 p11_2 p11_3 p11_4 p11_5 p11_6 p11_7 p11_8 p11_9 => ?_)
 have wx17 : own_exs Z _ [aH, aG, aR, aS, aL, aA] ocl_6 := ⟨(P0.1), P1.exa, P5.exR, P5.exS, P5.exL, P6.exa, trivial⟩
 have ni18 := own_nin (P3.1) wx17 nc_14
 have ni19 := own_nin P3.exB wx17 nc_15
 have f20 := P3.keep Kq11 ni18 ni19
 have ni21 := own_nin (P4.1) wx17 nc_14
 have ni22 := own_nin P4.exB wx17 nc_15
 have f23 := P4.keep Kq11 ni21 ni22
 have K24 := own_ktr (Keep.refl h0 [aH, aG, aR, aS, aL, aA]) Kq11
 have z25 := Nat.le_trans Z0 Kq11.1
 exact o_rv X11 hx hby hrt hlk q16_210 ⟨hdq12, fq13, byq14, hvq15, gq16, rfl, N11, K24, p11_0, p11_1, p11_2, p11_3, p11_4, p11_5, p11_6, p11_7, p11_8, p11_9⟩
def Q85 (Z : State) (aH aE : Addr) (M : Int32) (mb : Int64) (aS aG : Addr) (hd : Int32) (by_ ls : Int64) (f : Nat → Value) (aE1 aB1 : Addr) (sq1 : Int64) (n1 : Int32) (aE2 aB2 : Addr) (sq2 : Int64) (n2 : Int32) (aB : Addr) (sq : Int64) (n : Int32) (aR aL : Addr) (bd hv : Int64) (aA : Addr) (g : Nat → Value) (h0 : Heap) (n0 : Nat) (v : Option Value) (h : Heap) (L : List Loc) : Prop := ∃ hdq : Int32, ∃ fq : Nat → Value, ∃ byq : Int64, ∃ hvq : Int64, ∃ gq : Nat → Value, v = none ∧ Fr n0 L ∧ Keep h0 h [aH, aG, aR, aS, aL, aA] ∧ (own_Hi Z h aH M mb aS aG hdq (0 : Int32) byq sq) ∧ (own_RE Z h aG M fq) ∧ (own_Rm Z h aR aS aL aA bd hvq (-1 : Int32) (0 : Int32)) ∧ (own_RO Z h aA (10 : Int32) gq) ∧ (0 ≤ hdq.toInt ∧ hdq.toInt < M.toInt) ∧ (byq.toInt = 0) ∧ (hvq.toInt = 0)
set_option maxRecDepth 65536 in
set_option maxHeartbeats 40000000 in
theorem rm85 (l Z a0) (hw : oW a0 Z) (ws) (aH aE : Addr) (M : Int32) (mb : Int64) (aS aG : Addr) (hd : Int32) (by_ ls : Int64) (f : Nat → Value) (aE1 aB1 : Addr) (sq1 : Int64) (n1 : Int32) (aE2 aB2 : Addr) (sq2 : Int64) (n2 : Int32) (aB : Addr) (sq : Int64) (n : Int32) (aR aL : Addr) (bd hv : Int64) (aA : Addr) (g : Nat → Value) (h0 : Heap) (n0 : Nat) (Z0 : n0 ≤ h0.size) (P0 : own_Hi Z h0 aH M mb aS aG hd (2 : Int32) by_ ls) (P1 : own_RE Z h0 aG M f) (P2 : f hd.toNatClampNeg = .ref aE1) (P3 : f ((hd + (1 : Int32)) % M).toNatClampNeg = .ref aE2) (P4 : own_Ev Z h0 aE1 aB1 sq1 n1) (P5 : own_Ev Z h0 aE2 aB2 sq2 n2) (P6 : own_Ev Z h0 aE aB sq n) (P7 : own_Rm Z h0 aR aS aL aA bd hv (0 : Int32) (1 : Int32)) (P8 : own_RO Z h0 aA (10 : Int32) g) (P9 : g (0 : Int32).toNatClampNeg = .ref aS) (P10 : n0 ≤ aH) (P11 : n0 ≤ aG) (P12 : n0 ≤ aR) (P13 : n0 ≤ aS) (P14 : n0 ≤ aL) (P15 : n0 ≤ aA) (P16 : 0 ≤ M.toInt ∧ M.toInt ≤ 7) (P17 : 0 ≤ hd.toInt ∧ hd.toInt < M.toInt) (P18 : 0 ≤ n1.toInt ∧ n1.toInt ≤ 7) (P19 : 0 ≤ n2.toInt ∧ n2.toInt ≤ 7) (P20 : 0 ≤ n.toInt ∧ n.toInt ≤ 7) (P21 : 0 ≤ mb.toInt) (P22 : by_.toInt = n1.toInt + n2.toInt) (P23 : hv.toInt = n1.toInt + n2.toInt + 256) (P24 : 2 ≤ M.toInt) (P25 : ¬ (1 ≤ M.toInt ∧ n.toInt ≤ mb.toInt ∧ n.toInt + 128 ≤ bd.toInt)) :
   own_Met l own_y18 kc16 4 none ws own_r7 #[(.ref aH), (.ref aE)] Z h0 (Q85 Z aH aE M mb aS aG hd by_ ls f aE1 aB1 sq1 n1 aE2 aB2 sq2 n2 aB sq n aR aL bd hv aA g h0 n0) := by
 refine own_bd #[vR aH, vR aE, .unset, .unset] (plainFor_of_name pn_8) fun p e s m below meth c s₁ hx hby hml hrt hlk hZ hown hnm X0 e0 => ?_
 have N0 := Fr.nil n0
 refine o_al X0 hx hby q16_0 ?_
 refine o_cV X0 hx hZ hown hw hml hby (rm49 l Z a0 hw [] aE aB h0 n0 Z0 (P6.2.2.1)) (P6.1) e0 126 127 129 128 130 8 0 q16_1 [] [] pd_21 hy_8 fun v1 T1 L1 hQ1 X1 => ?_
 obtain ⟨rfl, Nq1, eq1⟩ := hQ1
 have N1 := Fr.app N0 Nq1
 refine oV ?_
 refine o_nB X1 hx hZ hby eq1 (P6.2.2.2) q16_4 ?_
 refine o_is X1 hx hby q16_5 #[vR aH, vR aE, vI n, .unset] ?_
 refine own_join (α := Unit) X1 eq1 (fun T' _ => T'.setTop (mkF m 39 #[vR aH, vR aE, vI n, .unset] [])) (fun _ => True) ?_ ?_
 · intro T3 _ X3 e3 _
   show oG _ _ _ _ (T3.setTop (mkF m 39 #[vR aH, vR aE, vI n, .unset] []))
   refine o_al X3 hx hby q16_39 ?_
   refine o_cP X3 hx hZ hown hw hml hby (rm61 l Z a0 hw [] aH M mb aS aG hd by_ ls f aE1 aB1 sq1 n1 aE2 n2 aR aL aA g bd hv h0 n0 Z0 P0 P1 P2 P4 P3 P7 P8 P9 P10 P11 P12 P13 P14 P15 P16 P17 P18 P19 P24 P22 P23) (P0.1) e3 263 264 27 265 266 28 0 q16_40 [] [] pd_7 hy_9 fun v4 T4 L4 hQ4 X4 => ?_
   obtain ⟨fq5, byq6, hvq7, gq8, rfl, Nq4, Kq4, p4_0, p4_1, p4_2, p4_3, p4_4, p4_5, p4_6, p4_7⟩ := hQ4
   have N4 := Fr.app N1 Nq4
   have wx9 : own_exs Z _ [aH, aG, aR, aS, aL, aA] ocl_6 := ⟨(P0.1), P1.exa, P7.exR, P7.exS, P7.exL, P8.exa, trivial⟩
   have ni10 := own_nin (P4.1) wx9 nc_14
   have ni11 := own_nin P4.exB wx9 nc_15
   have f12 := P4.keep Kq4 ni10 ni11
   have ni13 := own_nin (P5.1) wx9 nc_14
   have ni14 := own_nin P5.exB wx9 nc_15
   have f15 := P5.keep Kq4 ni13 ni14
   have ni16 := own_nin (P6.1) wx9 nc_14
   have ni17 := own_nin P6.exB wx9 nc_15
   have f18 := P6.keep Kq4 ni16 ni17
   have K19 := own_ktr (Keep.refl h0 [aH, aG, aR, aS, aL, aA]) Kq4
   have z20 := Nat.le_trans Z0 Kq4.1
   refine oN ?_
   refine o_gt X4 hx hby q16_43 6 ?_
   have : (1 : Int32).toInt = 1 := (by decide)
   have := And.intro (c_iadd hd (1 : Int32)) (rng32 (hd + (1 : Int32)))
   have := c_iremV (hd + (1 : Int32)) M
   refine sg75 l Z a0 hw aH aE M mb aS aG ((hd + (1 : Int32)) % M) byq6 ls fq5 aE2 aB2 sq2 n2 aB sq n aR aL bd hvq7 aA gq8 T4.heap n0 z20 p4_0 p4_1 p4_2 f15 f18 p4_3 p4_4 p4_5 P10 P11 P12 P13 P14 P15 P16 (show 0 ≤ ((hd + (1 : Int32)) % M).toInt ∧ ((hd + (1 : Int32)) % M).toInt < M.toInt from by omega) P19 P20 P21 p4_6 p4_7 (show 1 ≤ M.toInt from by omega) P25 hx hby hml hZ hown X4 rfl N4 (fun T21 L21 hdq22 fq23 byq24 hvq25 gq26 X21 N21 Kq21 p21_0 p21_1 p21_2 p21_3 p21_4 p21_5 p21_6 => ?_)
   have f27 := f12.keep Kq21 ni10 ni11
   have f28 := f15.keep Kq21 ni13 ni14
   have f29 := f18.keep Kq21 ni16 ni17
   have K30 := own_ktr K19 Kq21
   have z31 := Nat.le_trans z20 Kq21.1
   exact o_rv X21 hx hby hrt hlk q16_210 ⟨hdq22, fq23, byq24, hvq25, gq26, rfl, N21, K30, p21_0, p21_1, p21_2, p21_3, p21_4, p21_5, p21_6⟩
 · intro J3
   refine o_al X1 hx hby q16_6 ?_
   refine o_g X1 hx hZ hown hw hby eq1 (P0.2.2.2.2.2.2.1) 114 q16_7 fun T32 X32 e32 => ?_
   refine o_in X32 hx hby q16_10 ((if0 _ _).trans (tlt (by decide)).2.2.2) ?_
   refine o_al X32 hx hby q16_13 ?_
   refine o_g X32 hx hZ hown hw hby e32 (P0.2.2.2.2.2.2.1) 114 q16_14 fun T33 X33 e33 => ?_
   refine o_al X33 hx hby q16_17 ?_
   refine o_g X33 hx hZ hown hw hby e33 (P0.2.1) 79 q16_18 fun T34 X34 e34 => ?_
   by_cases hc35 : (2 : Int32) = M
   · refine o_cy X34 hx hby q16_21 39 ((teq hc35).1) ?_
     exact J3 _ () X34 e34 trivial
   · refine o_cn X34 hx hby q16_21 ((feq hc35).1) ?_
     refine o_al X34 hx hby q16_24 ?_
     refine o_g X34 hx hZ hown hw hby e34 (P0.2.2.2.2.2.2.2.1) 248 q16_25 fun T36 X36 e36 => ?_
     refine o_il X36 hx hby q16_28 ?_
     refine o_i2l X36 hx hby q16_29 ?_
     refine o_ladd X36 hx hby q16_30 ?_
     refine o_al X36 hx hby q16_31 ?_
     refine o_g X36 hx hZ hown hw hby e36 (P0.2.2.1) 81 q16_32 fun T37 X37 e37 => ?_
     refine o_lcmp X37 hx hby q16_35 ?_
     by_cases hc38 : mb < (by_ + (n.toInt64))
     · refine o_in X37 hx hby q16_36 ((if0 _ _).trans (tlt ((lw_gt _ _).mpr hc38)).2.2.2) ?_
       exact J3 _ () X37 e37 trivial
     · refine o_iy X37 hx hby q16_36 46 ((if0 _ _).trans (flt (fun q => absurd ((lw_gt _ _).mp q) hc38)).2.2.2) ?_
       refine o_al X37 hx hby q16_46 ?_
       refine o_g X37 hx hZ hown hw hby e37 (P0.2.2.2.2.2.2.1) 114 q16_47 fun T39 X39 e39 => ?_
       refine o_al X39 hx hby q16_50 ?_
       refine o_g X39 hx hZ hown hw hby e39 (P0.2.1) 79 q16_51 fun T40 X40 e40 => ?_
       have := (mt Int32.toInt_inj.mp hc35)
       have := (mt Int64.lt_iff_toInt_lt.mpr hc38)
       have : (2 : Int32).toInt = 2 := (by decide)
       have := c_i2l n
       have := And.intro (c_ladd by_ (n).toInt64) (rng64 (by_ + (n).toInt64))
       refine o_cn X40 hx hby q16_54 ((tlt (show (2 : Int32) < M from Int32.lt_iff_toInt_lt.mpr (by omega))).2.1) ?_
       refine o_il X40 hx hby q16_57 ?_
       refine o_i2l X40 hx hby q16_58 ?_
       refine o_al X40 hx hby q16_59 ?_
       refine o_g X40 hx hZ hown hw hby e40 (P0.2.2.1) 81 q16_60 fun T41 X41 e41 => ?_
       refine o_lcmp X41 hx hby q16_63 ?_
       refine o_in X41 hx hby q16_64 ((if0 _ _).trans (flt (fun q => absurd ((lw_gt _ _).mp q) (show ¬ (mb < (n.toInt64)) from mt Int64.lt_iff_toInt_lt.mp (by omega)))).2.2.1) ?_
       refine o_ic X41 hx hby 1 q16_67 ?_
       refine o_gt X41 hx hby q16_68 72 ?_
       refine o_is X41 hx hby q16_72 #[vR aH, vR aE, vI n, vI 1] ?_
       refine sg69 l Z a0 hw aH aE M mb aS aG hd by_ ls f aE1 aB1 sq1 n1 aE2 aB2 sq2 n2 aB sq n aR aL bd hv aA g h0 n0 Z0 P0 P1 P2 P3 P4 P5 P6 P7 P8 P9 P10 P11 P12 P13 P14 P15 P16 P17 P18 P19 P20 P21 P22 P23 (show 3 ≤ M.toInt from by omega) (show n1.toInt + n2.toInt + n.toInt ≤ mb.toInt from by omega) (show bd.toInt < n.toInt + 128 from by omega) hx hby hml hZ hown X41 e41 N1 (fun T42 L42 hdq43 fq44 byq45 hvq46 gq47 X42 N42 Kq42 p42_0 p42_1 p42_2 p42_3 p42_4 p42_5 p42_6 => ?_)
       have wx48 : own_exs Z _ [aH, aG, aR, aS, aL, aA] ocl_6 := ⟨(P0.1), P1.exa, P7.exR, P7.exS, P7.exL, P8.exa, trivial⟩
       have ni49 := own_nin (P4.1) wx48 nc_14
       have ni50 := own_nin P4.exB wx48 nc_15
       have f51 := P4.keep Kq42 ni49 ni50
       have ni52 := own_nin (P5.1) wx48 nc_14
       have ni53 := own_nin P5.exB wx48 nc_15
       have f54 := P5.keep Kq42 ni52 ni53
       have ni55 := own_nin (P6.1) wx48 nc_14
       have ni56 := own_nin P6.exB wx48 nc_15
       have f57 := P6.keep Kq42 ni55 ni56
       have K58 := own_ktr (Keep.refl h0 [aH, aG, aR, aS, aL, aA]) Kq42
       have z59 := Nat.le_trans Z0 Kq42.1
       exact o_rv X42 hx hby hrt hlk q16_210 ⟨hdq43, fq44, byq45, hvq46, gq47, rfl, N42, K58, p42_0, p42_1, p42_2, p42_3, p42_4, p42_5, p42_6⟩
def Q86 (Z : State) (aH aE : Addr) (M : Int32) (mb : Int64) (aS aG : Addr) (hd : Int32) (by_ ls : Int64) (f : Nat → Value) (aE1 aB1 : Addr) (sq1 : Int64) (n1 : Int32) (aE2 aB2 : Addr) (sq2 : Int64) (n2 : Int32) (aB : Addr) (sq : Int64) (n : Int32) (aR aL : Addr) (bd hv : Int64) (aA : Addr) (g : Nat → Value) (h0 : Heap) (n0 : Nat) (v : Option Value) (h : Heap) (L : List Loc) : Prop := ∃ hdq : Int32, ∃ fq : Nat → Value, ∃ byq : Int64, ∃ hvq : Int64, ∃ gq : Nat → Value, v = none ∧ Fr n0 L ∧ Keep h0 h [aH, aG, aR, aS, aL, aA] ∧ (own_Hi Z h aH M mb aS aG hdq (1 : Int32) byq sq) ∧ (own_RE Z h aG M fq) ∧ (fq hdq.toNatClampNeg = .ref aE) ∧ (own_Rm Z h aR aS aL aA bd hvq (0 : Int32) (1 : Int32)) ∧ (own_RO Z h aA (10 : Int32) gq) ∧ (gq (0 : Int32).toNatClampNeg = .ref aS) ∧ (0 ≤ hdq.toInt ∧ hdq.toInt < M.toInt) ∧ (byq.toInt = n.toInt) ∧ (hvq.toInt = n.toInt + 128)
set_option maxRecDepth 65536 in
set_option maxHeartbeats 40000000 in
theorem rm86 (l Z a0) (hw : oW a0 Z) (ws) (aH aE : Addr) (M : Int32) (mb : Int64) (aS aG : Addr) (hd : Int32) (by_ ls : Int64) (f : Nat → Value) (aE1 aB1 : Addr) (sq1 : Int64) (n1 : Int32) (aE2 aB2 : Addr) (sq2 : Int64) (n2 : Int32) (aB : Addr) (sq : Int64) (n : Int32) (aR aL : Addr) (bd hv : Int64) (aA : Addr) (g : Nat → Value) (h0 : Heap) (n0 : Nat) (Z0 : n0 ≤ h0.size) (P0 : own_Hi Z h0 aH M mb aS aG hd (2 : Int32) by_ ls) (P1 : own_RE Z h0 aG M f) (P2 : f hd.toNatClampNeg = .ref aE1) (P3 : f ((hd + (1 : Int32)) % M).toNatClampNeg = .ref aE2) (P4 : own_Ev Z h0 aE1 aB1 sq1 n1) (P5 : own_Ev Z h0 aE2 aB2 sq2 n2) (P6 : own_Ev Z h0 aE aB sq n) (P7 : own_Rm Z h0 aR aS aL aA bd hv (0 : Int32) (1 : Int32)) (P8 : own_RO Z h0 aA (10 : Int32) g) (P9 : g (0 : Int32).toNatClampNeg = .ref aS) (P10 : n0 ≤ aH) (P11 : n0 ≤ aG) (P12 : n0 ≤ aR) (P13 : n0 ≤ aS) (P14 : n0 ≤ aL) (P15 : n0 ≤ aA) (P16 : 0 ≤ M.toInt ∧ M.toInt ≤ 7) (P17 : 0 ≤ hd.toInt ∧ hd.toInt < M.toInt) (P18 : 0 ≤ n1.toInt ∧ n1.toInt ≤ 7) (P19 : 0 ≤ n2.toInt ∧ n2.toInt ≤ 7) (P20 : 0 ≤ n.toInt ∧ n.toInt ≤ 7) (P21 : 0 ≤ mb.toInt) (P22 : by_.toInt = n1.toInt + n2.toInt) (P23 : hv.toInt = n1.toInt + n2.toInt + 256) (P24 : 2 ≤ M.toInt) (P25 : (1 ≤ M.toInt ∧ n.toInt ≤ mb.toInt ∧ n.toInt + 128 ≤ bd.toInt)) (P26 : ¬ (2 ≤ M.toInt ∧ n2.toInt + n.toInt ≤ mb.toInt ∧ n2.toInt + n.toInt + 256 ≤ bd.toInt)) :
   own_Met l own_y18 kc16 4 none ws own_r7 #[(.ref aH), (.ref aE)] Z h0 (Q86 Z aH aE M mb aS aG hd by_ ls f aE1 aB1 sq1 n1 aE2 aB2 sq2 n2 aB sq n aR aL bd hv aA g h0 n0) := by
 refine own_bd #[vR aH, vR aE, .unset, .unset] (plainFor_of_name pn_8) fun p e s m below meth c s₁ hx hby hml hrt hlk hZ hown hnm X0 e0 => ?_
 have N0 := Fr.nil n0
 refine o_al X0 hx hby q16_0 ?_
 refine o_cV X0 hx hZ hown hw hml hby (rm49 l Z a0 hw [] aE aB h0 n0 Z0 (P6.2.2.1)) (P6.1) e0 126 127 129 128 130 8 0 q16_1 [] [] pd_21 hy_8 fun v1 T1 L1 hQ1 X1 => ?_
 obtain ⟨rfl, Nq1, eq1⟩ := hQ1
 have N1 := Fr.app N0 Nq1
 refine oV ?_
 refine o_nB X1 hx hZ hby eq1 (P6.2.2.2) q16_4 ?_
 refine o_is X1 hx hby q16_5 #[vR aH, vR aE, vI n, .unset] ?_
 refine own_join (α := Unit) X1 eq1 (fun T' _ => T'.setTop (mkF m 39 #[vR aH, vR aE, vI n, .unset] [])) (fun _ => True) ?_ ?_
 · intro T3 _ X3 e3 _
   show oG _ _ _ _ (T3.setTop (mkF m 39 #[vR aH, vR aE, vI n, .unset] []))
   refine o_al X3 hx hby q16_39 ?_
   refine o_cP X3 hx hZ hown hw hml hby (rm61 l Z a0 hw [] aH M mb aS aG hd by_ ls f aE1 aB1 sq1 n1 aE2 n2 aR aL aA g bd hv h0 n0 Z0 P0 P1 P2 P4 P3 P7 P8 P9 P10 P11 P12 P13 P14 P15 P16 P17 P18 P19 P24 P22 P23) (P0.1) e3 263 264 27 265 266 28 0 q16_40 [] [] pd_7 hy_9 fun v4 T4 L4 hQ4 X4 => ?_
   obtain ⟨fq5, byq6, hvq7, gq8, rfl, Nq4, Kq4, p4_0, p4_1, p4_2, p4_3, p4_4, p4_5, p4_6, p4_7⟩ := hQ4
   have N4 := Fr.app N1 Nq4
   have wx9 : own_exs Z _ [aH, aG, aR, aS, aL, aA] ocl_6 := ⟨(P0.1), P1.exa, P7.exR, P7.exS, P7.exL, P8.exa, trivial⟩
   have ni10 := own_nin (P4.1) wx9 nc_14
   have ni11 := own_nin P4.exB wx9 nc_15
   have f12 := P4.keep Kq4 ni10 ni11
   have ni13 := own_nin (P5.1) wx9 nc_14
   have ni14 := own_nin P5.exB wx9 nc_15
   have f15 := P5.keep Kq4 ni13 ni14
   have ni16 := own_nin (P6.1) wx9 nc_14
   have ni17 := own_nin P6.exB wx9 nc_15
   have f18 := P6.keep Kq4 ni16 ni17
   have K19 := own_ktr (Keep.refl h0 [aH, aG, aR, aS, aL, aA]) Kq4
   have z20 := Nat.le_trans Z0 Kq4.1
   refine oN ?_
   refine o_gt X4 hx hby q16_43 6 ?_
   have : (1 : Int32).toInt = 1 := (by decide)
   have := And.intro (c_iadd hd (1 : Int32)) (rng32 (hd + (1 : Int32)))
   have := c_iremV (hd + (1 : Int32)) M
   refine sg76 l Z a0 hw aH aE M mb aS aG ((hd + (1 : Int32)) % M) byq6 ls fq5 aE2 aB2 sq2 n2 aB sq n aR aL bd hvq7 aA gq8 T4.heap n0 z20 p4_0 p4_1 p4_2 f15 f18 p4_3 p4_4 p4_5 P10 P11 P12 P13 P14 P15 P16 (show 0 ≤ ((hd + (1 : Int32)) % M).toInt ∧ ((hd + (1 : Int32)) % M).toInt < M.toInt from by omega) P19 P20 P21 p4_6 p4_7 (show 1 ≤ M.toInt from by omega) P25 P26 hx hby hml hZ hown X4 rfl N4 (fun T21 L21 hdq22 fq23 byq24 hvq25 gq26 X21 N21 Kq21 p21_0 p21_1 p21_2 p21_3 p21_4 p21_5 p21_6 p21_7 p21_8 => ?_)
   have f27 := f12.keep Kq21 ni10 ni11
   have f28 := f15.keep Kq21 ni13 ni14
   have f29 := f18.keep Kq21 ni16 ni17
   have K30 := own_ktr K19 Kq21
   have z31 := Nat.le_trans z20 Kq21.1
   exact o_rv X21 hx hby hrt hlk q16_210 ⟨hdq22, fq23, byq24, hvq25, gq26, rfl, N21, K30, p21_0, p21_1, p21_2, p21_3, p21_4, p21_5, p21_6, p21_7, p21_8⟩
 · intro J3
   refine o_al X1 hx hby q16_6 ?_
   refine o_g X1 hx hZ hown hw hby eq1 (P0.2.2.2.2.2.2.1) 114 q16_7 fun T32 X32 e32 => ?_
   refine o_in X32 hx hby q16_10 ((if0 _ _).trans (tlt (by decide)).2.2.2) ?_
   refine o_al X32 hx hby q16_13 ?_
   refine o_g X32 hx hZ hown hw hby e32 (P0.2.2.2.2.2.2.1) 114 q16_14 fun T33 X33 e33 => ?_
   refine o_al X33 hx hby q16_17 ?_
   refine o_g X33 hx hZ hown hw hby e33 (P0.2.1) 79 q16_18 fun T34 X34 e34 => ?_
   by_cases hc35 : (2 : Int32) = M
   · refine o_cy X34 hx hby q16_21 39 ((teq hc35).1) ?_
     exact J3 _ () X34 e34 trivial
   · refine o_cn X34 hx hby q16_21 ((feq hc35).1) ?_
     refine o_al X34 hx hby q16_24 ?_
     refine o_g X34 hx hZ hown hw hby e34 (P0.2.2.2.2.2.2.2.1) 248 q16_25 fun T36 X36 e36 => ?_
     refine o_il X36 hx hby q16_28 ?_
     refine o_i2l X36 hx hby q16_29 ?_
     refine o_ladd X36 hx hby q16_30 ?_
     refine o_al X36 hx hby q16_31 ?_
     refine o_g X36 hx hZ hown hw hby e36 (P0.2.2.1) 81 q16_32 fun T37 X37 e37 => ?_
     refine o_lcmp X37 hx hby q16_35 ?_
     by_cases hc38 : mb < (by_ + (n.toInt64))
     · refine o_in X37 hx hby q16_36 ((if0 _ _).trans (tlt ((lw_gt _ _).mpr hc38)).2.2.2) ?_
       exact J3 _ () X37 e37 trivial
     · refine o_iy X37 hx hby q16_36 46 ((if0 _ _).trans (flt (fun q => absurd ((lw_gt _ _).mp q) hc38)).2.2.2) ?_
       refine o_al X37 hx hby q16_46 ?_
       refine o_g X37 hx hZ hown hw hby e37 (P0.2.2.2.2.2.2.1) 114 q16_47 fun T39 X39 e39 => ?_
       refine o_al X39 hx hby q16_50 ?_
       refine o_g X39 hx hZ hown hw hby e39 (P0.2.1) 79 q16_51 fun T40 X40 e40 => ?_
       have := (mt Int32.toInt_inj.mp hc35)
       have := (mt Int64.lt_iff_toInt_lt.mpr hc38)
       have : (2 : Int32).toInt = 2 := (by decide)
       have := c_i2l n
       have := And.intro (c_ladd by_ (n).toInt64) (rng64 (by_ + (n).toInt64))
       refine o_cn X40 hx hby q16_54 ((tlt (show (2 : Int32) < M from Int32.lt_iff_toInt_lt.mpr (by omega))).2.1) ?_
       refine o_il X40 hx hby q16_57 ?_
       refine o_i2l X40 hx hby q16_58 ?_
       refine o_al X40 hx hby q16_59 ?_
       refine o_g X40 hx hZ hown hw hby e40 (P0.2.2.1) 81 q16_60 fun T41 X41 e41 => ?_
       refine o_lcmp X41 hx hby q16_63 ?_
       refine o_in X41 hx hby q16_64 ((if0 _ _).trans (flt (fun q => absurd ((lw_gt _ _).mp q) (show ¬ (mb < (n.toInt64)) from mt Int64.lt_iff_toInt_lt.mp (by omega)))).2.2.1) ?_
       refine o_ic X41 hx hby 1 q16_67 ?_
       refine o_gt X41 hx hby q16_68 72 ?_
       refine o_is X41 hx hby q16_72 #[vR aH, vR aE, vI n, vI 1] ?_
       refine sg70 l Z a0 hw aH aE M mb aS aG hd by_ ls f aE1 aB1 sq1 n1 aE2 aB2 sq2 n2 aB sq n aR aL bd hv aA g h0 n0 Z0 P0 P1 P2 P3 P4 P5 P6 P7 P8 P9 P10 P11 P12 P13 P14 P15 P16 P17 P18 P19 P20 P21 P22 P23 (show 3 ≤ M.toInt from by omega) (show n1.toInt + n2.toInt + n.toInt ≤ mb.toInt from by omega) (show n.toInt + 128 ≤ bd.toInt from by omega) (show bd.toInt < n2.toInt + n.toInt + 256 from by omega) hx hby hml hZ hown X41 e41 N1 (fun T42 L42 hdq43 fq44 byq45 hvq46 gq47 X42 N42 Kq42 p42_0 p42_1 p42_2 p42_3 p42_4 p42_5 p42_6 p42_7 p42_8 => ?_)
       have wx48 : own_exs Z _ [aH, aG, aR, aS, aL, aA] ocl_6 := ⟨(P0.1), P1.exa, P7.exR, P7.exS, P7.exL, P8.exa, trivial⟩
       have ni49 := own_nin (P4.1) wx48 nc_14
       have ni50 := own_nin P4.exB wx48 nc_15
       have f51 := P4.keep Kq42 ni49 ni50
       have ni52 := own_nin (P5.1) wx48 nc_14
       have ni53 := own_nin P5.exB wx48 nc_15
       have f54 := P5.keep Kq42 ni52 ni53
       have ni55 := own_nin (P6.1) wx48 nc_14
       have ni56 := own_nin P6.exB wx48 nc_15
       have f57 := P6.keep Kq42 ni55 ni56
       have K58 := own_ktr (Keep.refl h0 [aH, aG, aR, aS, aL, aA]) Kq42
       have z59 := Nat.le_trans Z0 Kq42.1
       exact o_rv X42 hx hby hrt hlk q16_210 ⟨hdq43, fq44, byq45, hvq46, gq47, rfl, N42, K58, p42_0, p42_1, p42_2, p42_3, p42_4, p42_5, p42_6, p42_7, p42_8⟩
def Q87 (Z : State) (aH aE : Addr) (M : Int32) (mb : Int64) (aS aG : Addr) (hd : Int32) (by_ ls : Int64) (f : Nat → Value) (aE1 aB1 : Addr) (sq1 : Int64) (n1 : Int32) (aE2 aB2 : Addr) (sq2 : Int64) (n2 : Int32) (aB : Addr) (sq : Int64) (n : Int32) (aR aL : Addr) (bd hv : Int64) (aA : Addr) (g : Nat → Value) (h0 : Heap) (n0 : Nat) (v : Option Value) (h : Heap) (L : List Loc) : Prop := ∃ hdq : Int32, ∃ fq : Nat → Value, ∃ byq : Int64, ∃ hvq : Int64, ∃ gq : Nat → Value, v = none ∧ Fr n0 L ∧ Keep h0 h [aH, aG, aR, aS, aL, aA] ∧ (own_Hi Z h aH M mb aS aG hdq (2 : Int32) byq sq) ∧ (own_RE Z h aG M fq) ∧ (fq hdq.toNatClampNeg = .ref aE2) ∧ (fq ((hdq + (1 : Int32)) % M).toNatClampNeg = .ref aE) ∧ (own_Rm Z h aR aS aL aA bd hvq (0 : Int32) (1 : Int32)) ∧ (own_RO Z h aA (10 : Int32) gq) ∧ (gq (0 : Int32).toNatClampNeg = .ref aS) ∧ (0 ≤ hdq.toInt ∧ hdq.toInt < M.toInt) ∧ (byq.toInt = n2.toInt + n.toInt) ∧ (hvq.toInt = n2.toInt + n.toInt + 256)
set_option maxRecDepth 65536 in
set_option maxHeartbeats 40000000 in
theorem rm87 (l Z a0) (hw : oW a0 Z) (ws) (aH aE : Addr) (M : Int32) (mb : Int64) (aS aG : Addr) (hd : Int32) (by_ ls : Int64) (f : Nat → Value) (aE1 aB1 : Addr) (sq1 : Int64) (n1 : Int32) (aE2 aB2 : Addr) (sq2 : Int64) (n2 : Int32) (aB : Addr) (sq : Int64) (n : Int32) (aR aL : Addr) (bd hv : Int64) (aA : Addr) (g : Nat → Value) (h0 : Heap) (n0 : Nat) (Z0 : n0 ≤ h0.size) (P0 : own_Hi Z h0 aH M mb aS aG hd (2 : Int32) by_ ls) (P1 : own_RE Z h0 aG M f) (P2 : f hd.toNatClampNeg = .ref aE1) (P3 : f ((hd + (1 : Int32)) % M).toNatClampNeg = .ref aE2) (P4 : own_Ev Z h0 aE1 aB1 sq1 n1) (P5 : own_Ev Z h0 aE2 aB2 sq2 n2) (P6 : own_Ev Z h0 aE aB sq n) (P7 : own_Rm Z h0 aR aS aL aA bd hv (0 : Int32) (1 : Int32)) (P8 : own_RO Z h0 aA (10 : Int32) g) (P9 : g (0 : Int32).toNatClampNeg = .ref aS) (P10 : n0 ≤ aH) (P11 : n0 ≤ aG) (P12 : n0 ≤ aR) (P13 : n0 ≤ aS) (P14 : n0 ≤ aL) (P15 : n0 ≤ aA) (P16 : 0 ≤ M.toInt ∧ M.toInt ≤ 7) (P17 : 0 ≤ hd.toInt ∧ hd.toInt < M.toInt) (P18 : 0 ≤ n1.toInt ∧ n1.toInt ≤ 7) (P19 : 0 ≤ n2.toInt ∧ n2.toInt ≤ 7) (P20 : 0 ≤ n.toInt ∧ n.toInt ≤ 7) (P21 : 0 ≤ mb.toInt) (P22 : by_.toInt = n1.toInt + n2.toInt) (P23 : hv.toInt = n1.toInt + n2.toInt + 256) (P24 : 2 ≤ M.toInt) (P25 : (2 ≤ M.toInt ∧ n2.toInt + n.toInt ≤ mb.toInt ∧ n2.toInt + n.toInt + 256 ≤ bd.toInt)) (P26 : ¬ (3 ≤ M.toInt ∧ n1.toInt + n2.toInt + n.toInt ≤ mb.toInt ∧ n1.toInt + n2.toInt + n.toInt + 384 ≤ bd.toInt)) :
   own_Met l own_y18 kc16 4 none ws own_r7 #[(.ref aH), (.ref aE)] Z h0 (Q87 Z aH aE M mb aS aG hd by_ ls f aE1 aB1 sq1 n1 aE2 aB2 sq2 n2 aB sq n aR aL bd hv aA g h0 n0) := by
 refine own_bd #[vR aH, vR aE, .unset, .unset] (plainFor_of_name pn_8) fun p e s m below meth c s₁ hx hby hml hrt hlk hZ hown hnm X0 e0 => ?_
 have N0 := Fr.nil n0
 refine o_al X0 hx hby q16_0 ?_
 refine o_cV X0 hx hZ hown hw hml hby (rm49 l Z a0 hw [] aE aB h0 n0 Z0 (P6.2.2.1)) (P6.1) e0 126 127 129 128 130 8 0 q16_1 [] [] pd_21 hy_8 fun v1 T1 L1 hQ1 X1 => ?_
 obtain ⟨rfl, Nq1, eq1⟩ := hQ1
 have N1 := Fr.app N0 Nq1
 refine oV ?_
 refine o_nB X1 hx hZ hby eq1 (P6.2.2.2) q16_4 ?_
 refine o_is X1 hx hby q16_5 #[vR aH, vR aE, vI n, .unset] ?_
 refine own_join (α := Unit) X1 eq1 (fun T' _ => T'.setTop (mkF m 39 #[vR aH, vR aE, vI n, .unset] [])) (fun _ => True) ?_ ?_
 · intro T3 _ X3 e3 _
   show oG _ _ _ _ (T3.setTop (mkF m 39 #[vR aH, vR aE, vI n, .unset] []))
   refine o_al X3 hx hby q16_39 ?_
   refine o_cP X3 hx hZ hown hw hml hby (rm61 l Z a0 hw [] aH M mb aS aG hd by_ ls f aE1 aB1 sq1 n1 aE2 n2 aR aL aA g bd hv h0 n0 Z0 P0 P1 P2 P4 P3 P7 P8 P9 P10 P11 P12 P13 P14 P15 P16 P17 P18 P19 P24 P22 P23) (P0.1) e3 263 264 27 265 266 28 0 q16_40 [] [] pd_7 hy_9 fun v4 T4 L4 hQ4 X4 => ?_
   obtain ⟨fq5, byq6, hvq7, gq8, rfl, Nq4, Kq4, p4_0, p4_1, p4_2, p4_3, p4_4, p4_5, p4_6, p4_7⟩ := hQ4
   have N4 := Fr.app N1 Nq4
   have wx9 : own_exs Z _ [aH, aG, aR, aS, aL, aA] ocl_6 := ⟨(P0.1), P1.exa, P7.exR, P7.exS, P7.exL, P8.exa, trivial⟩
   have ni10 := own_nin (P4.1) wx9 nc_14
   have ni11 := own_nin P4.exB wx9 nc_15
   have f12 := P4.keep Kq4 ni10 ni11
   have ni13 := own_nin (P5.1) wx9 nc_14
   have ni14 := own_nin P5.exB wx9 nc_15
   have f15 := P5.keep Kq4 ni13 ni14
   have ni16 := own_nin (P6.1) wx9 nc_14
   have ni17 := own_nin P6.exB wx9 nc_15
   have f18 := P6.keep Kq4 ni16 ni17
   have K19 := own_ktr (Keep.refl h0 [aH, aG, aR, aS, aL, aA]) Kq4
   have z20 := Nat.le_trans Z0 Kq4.1
   refine oN ?_
   refine o_gt X4 hx hby q16_43 6 ?_
   have : (1 : Int32).toInt = 1 := (by decide)
   have := And.intro (c_iadd hd (1 : Int32)) (rng32 (hd + (1 : Int32)))
   have := c_iremV (hd + (1 : Int32)) M
   refine sg77 l Z a0 hw aH aE M mb aS aG ((hd + (1 : Int32)) % M) byq6 ls fq5 aE2 aB2 sq2 n2 aB sq n aR aL bd hvq7 aA gq8 T4.heap n0 z20 p4_0 p4_1 p4_2 f15 f18 p4_3 p4_4 p4_5 P10 P11 P12 P13 P14 P15 P16 (show 0 ≤ ((hd + (1 : Int32)) % M).toInt ∧ ((hd + (1 : Int32)) % M).toInt < M.toInt from by omega) P19 P20 P21 p4_6 p4_7 (show 1 ≤ M.toInt from by omega) P25 hx hby hml hZ hown X4 rfl N4 (fun T21 L21 hdq22 fq23 byq24 hvq25 gq26 X21 N21 Kq21 p21_0 p21_1 p21_2 p21_3 p21_4 p21_5 p21_6 p21_7 p21_8 p21_9 => ?_)
   have f27 := f12.keep Kq21 ni10 ni11
   have f28 := f15.keep Kq21 ni13 ni14
   have f29 := f18.keep Kq21 ni16 ni17
   have K30 := own_ktr K19 Kq21
   have z31 := Nat.le_trans z20 Kq21.1
   exact o_rv X21 hx hby hrt hlk q16_210 ⟨hdq22, fq23, byq24, hvq25, gq26, rfl, N21, K30, p21_0, p21_1, p21_2, p21_3, p21_4, p21_5, p21_6, p21_7, p21_8, p21_9⟩
 · intro J3
   refine o_al X1 hx hby q16_6 ?_
   refine o_g X1 hx hZ hown hw hby eq1 (P0.2.2.2.2.2.2.1) 114 q16_7 fun T32 X32 e32 => ?_
   refine o_in X32 hx hby q16_10 ((if0 _ _).trans (tlt (by decide)).2.2.2) ?_
   refine o_al X32 hx hby q16_13 ?_
   refine o_g X32 hx hZ hown hw hby e32 (P0.2.2.2.2.2.2.1) 114 q16_14 fun T33 X33 e33 => ?_
   refine o_al X33 hx hby q16_17 ?_
   refine o_g X33 hx hZ hown hw hby e33 (P0.2.1) 79 q16_18 fun T34 X34 e34 => ?_
   by_cases hc35 : (2 : Int32) = M
   · refine o_cy X34 hx hby q16_21 39 ((teq hc35).1) ?_
     exact J3 _ () X34 e34 trivial
   · refine o_cn X34 hx hby q16_21 ((feq hc35).1) ?_
     refine o_al X34 hx hby q16_24 ?_
     refine o_g X34 hx hZ hown hw hby e34 (P0.2.2.2.2.2.2.2.1) 248 q16_25 fun T36 X36 e36 => ?_
     refine o_il X36 hx hby q16_28 ?_
     refine o_i2l X36 hx hby q16_29 ?_
     refine o_ladd X36 hx hby q16_30 ?_
     refine o_al X36 hx hby q16_31 ?_
     refine o_g X36 hx hZ hown hw hby e36 (P0.2.2.1) 81 q16_32 fun T37 X37 e37 => ?_
     refine o_lcmp X37 hx hby q16_35 ?_
     by_cases hc38 : mb < (by_ + (n.toInt64))
     · refine o_in X37 hx hby q16_36 ((if0 _ _).trans (tlt ((lw_gt _ _).mpr hc38)).2.2.2) ?_
       exact J3 _ () X37 e37 trivial
     · refine o_iy X37 hx hby q16_36 46 ((if0 _ _).trans (flt (fun q => absurd ((lw_gt _ _).mp q) hc38)).2.2.2) ?_
       refine o_al X37 hx hby q16_46 ?_
       refine o_g X37 hx hZ hown hw hby e37 (P0.2.2.2.2.2.2.1) 114 q16_47 fun T39 X39 e39 => ?_
       refine o_al X39 hx hby q16_50 ?_
       refine o_g X39 hx hZ hown hw hby e39 (P0.2.1) 79 q16_51 fun T40 X40 e40 => ?_
       have := (mt Int32.toInt_inj.mp hc35)
       have := (mt Int64.lt_iff_toInt_lt.mpr hc38)
       have : (2 : Int32).toInt = 2 := (by decide)
       have := c_i2l n
       have := And.intro (c_ladd by_ (n).toInt64) (rng64 (by_ + (n).toInt64))
       refine o_cn X40 hx hby q16_54 ((tlt (show (2 : Int32) < M from Int32.lt_iff_toInt_lt.mpr (by omega))).2.1) ?_
       refine o_il X40 hx hby q16_57 ?_
       refine o_i2l X40 hx hby q16_58 ?_
       refine o_al X40 hx hby q16_59 ?_
       refine o_g X40 hx hZ hown hw hby e40 (P0.2.2.1) 81 q16_60 fun T41 X41 e41 => ?_
       refine o_lcmp X41 hx hby q16_63 ?_
       refine o_in X41 hx hby q16_64 ((if0 _ _).trans (flt (fun q => absurd ((lw_gt _ _).mp q) (show ¬ (mb < (n.toInt64)) from mt Int64.lt_iff_toInt_lt.mp (by omega)))).2.2.1) ?_
       refine o_ic X41 hx hby 1 q16_67 ?_
       refine o_gt X41 hx hby q16_68 72 ?_
       refine o_is X41 hx hby q16_72 #[vR aH, vR aE, vI n, vI 1] ?_
       refine sg71 l Z a0 hw aH aE M mb aS aG hd by_ ls f aE1 aB1 sq1 n1 aE2 aB2 sq2 n2 aB sq n aR aL bd hv aA g h0 n0 Z0 P0 P1 P2 P3 P4 P5 P6 P7 P8 P9 P10 P11 P12 P13 P14 P15 P16 P17 P18 P19 P20 P21 P22 P23 (show 3 ≤ M.toInt from by omega) (show n1.toInt + n2.toInt + n.toInt ≤ mb.toInt from by omega) (show n2.toInt + n.toInt + 256 ≤ bd.toInt from by omega) (show bd.toInt < n1.toInt + n2.toInt + n.toInt + 384 from by omega) hx hby hml hZ hown X41 e41 N1 (fun T42 L42 hdq43 fq44 byq45 hvq46 gq47 X42 N42 Kq42 p42_0 p42_1 p42_2 p42_3 p42_4 p42_5 p42_6 p42_7 p42_8 p42_9 => ?_)
       have wx48 : own_exs Z _ [aH, aG, aR, aS, aL, aA] ocl_6 := ⟨(P0.1), P1.exa, P7.exR, P7.exS, P7.exL, P8.exa, trivial⟩
       have ni49 := own_nin (P4.1) wx48 nc_14
       have ni50 := own_nin P4.exB wx48 nc_15
       have f51 := P4.keep Kq42 ni49 ni50
       have ni52 := own_nin (P5.1) wx48 nc_14
       have ni53 := own_nin P5.exB wx48 nc_15
       have f54 := P5.keep Kq42 ni52 ni53
       have ni55 := own_nin (P6.1) wx48 nc_14
       have ni56 := own_nin P6.exB wx48 nc_15
       have f57 := P6.keep Kq42 ni55 ni56
       have K58 := own_ktr (Keep.refl h0 [aH, aG, aR, aS, aL, aA]) Kq42
       have z59 := Nat.le_trans Z0 Kq42.1
       exact o_rv X42 hx hby hrt hlk q16_210 ⟨hdq43, fq44, byq45, hvq46, gq47, rfl, N42, K58, p42_0, p42_1, p42_2, p42_3, p42_4, p42_5, p42_6, p42_7, p42_8, p42_9⟩
def Q88 (Z : State) (aH aE : Addr) (M : Int32) (mb : Int64) (aS aG : Addr) (hd : Int32) (by_ ls : Int64) (f : Nat → Value) (aE1 aB1 : Addr) (sq1 : Int64) (n1 : Int32) (aE2 aB2 : Addr) (sq2 : Int64) (n2 : Int32) (aB : Addr) (sq : Int64) (n : Int32) (aR aL : Addr) (bd hv : Int64) (aA : Addr) (g : Nat → Value) (h0 : Heap) (n0 : Nat) (v : Option Value) (h : Heap) (L : List Loc) : Prop := ∃ hdq : Int32, ∃ fq : Nat → Value, ∃ byq : Int64, ∃ hvq : Int64, ∃ gq : Nat → Value, v = none ∧ Fr n0 L ∧ Keep h0 h [aH, aG, aR, aS, aL, aA] ∧ (own_Hi Z h aH M mb aS aG hdq (3 : Int32) byq sq) ∧ (own_RE Z h aG M fq) ∧ (fq hdq.toNatClampNeg = .ref aE1) ∧ (fq ((hdq + (1 : Int32)) % M).toNatClampNeg = .ref aE2) ∧ (fq ((hdq + (2 : Int32)) % M).toNatClampNeg = .ref aE) ∧ (own_Rm Z h aR aS aL aA bd hvq (0 : Int32) (1 : Int32)) ∧ (own_RO Z h aA (10 : Int32) gq) ∧ (gq (0 : Int32).toNatClampNeg = .ref aS) ∧ (0 ≤ hdq.toInt ∧ hdq.toInt < M.toInt) ∧ (byq.toInt = n1.toInt + n2.toInt + n.toInt) ∧ (hvq.toInt = n1.toInt + n2.toInt + n.toInt + 384)
set_option maxRecDepth 65536 in
set_option maxHeartbeats 40000000 in
theorem rm88 (l Z a0) (hw : oW a0 Z) (ws) (aH aE : Addr) (M : Int32) (mb : Int64) (aS aG : Addr) (hd : Int32) (by_ ls : Int64) (f : Nat → Value) (aE1 aB1 : Addr) (sq1 : Int64) (n1 : Int32) (aE2 aB2 : Addr) (sq2 : Int64) (n2 : Int32) (aB : Addr) (sq : Int64) (n : Int32) (aR aL : Addr) (bd hv : Int64) (aA : Addr) (g : Nat → Value) (h0 : Heap) (n0 : Nat) (Z0 : n0 ≤ h0.size) (P0 : own_Hi Z h0 aH M mb aS aG hd (2 : Int32) by_ ls) (P1 : own_RE Z h0 aG M f) (P2 : f hd.toNatClampNeg = .ref aE1) (P3 : f ((hd + (1 : Int32)) % M).toNatClampNeg = .ref aE2) (P4 : own_Ev Z h0 aE1 aB1 sq1 n1) (P5 : own_Ev Z h0 aE2 aB2 sq2 n2) (P6 : own_Ev Z h0 aE aB sq n) (P7 : own_Rm Z h0 aR aS aL aA bd hv (0 : Int32) (1 : Int32)) (P8 : own_RO Z h0 aA (10 : Int32) g) (P9 : g (0 : Int32).toNatClampNeg = .ref aS) (P10 : n0 ≤ aH) (P11 : n0 ≤ aG) (P12 : n0 ≤ aR) (P13 : n0 ≤ aS) (P14 : n0 ≤ aL) (P15 : n0 ≤ aA) (P16 : 0 ≤ M.toInt ∧ M.toInt ≤ 7) (P17 : 0 ≤ hd.toInt ∧ hd.toInt < M.toInt) (P18 : 0 ≤ n1.toInt ∧ n1.toInt ≤ 7) (P19 : 0 ≤ n2.toInt ∧ n2.toInt ≤ 7) (P20 : 0 ≤ n.toInt ∧ n.toInt ≤ 7) (P21 : 0 ≤ mb.toInt) (P22 : by_.toInt = n1.toInt + n2.toInt) (P23 : hv.toInt = n1.toInt + n2.toInt + 256) (P24 : 2 ≤ M.toInt) (P25 : (3 ≤ M.toInt ∧ n1.toInt + n2.toInt + n.toInt ≤ mb.toInt ∧ n1.toInt + n2.toInt + n.toInt + 384 ≤ bd.toInt)) :
   own_Met l own_y18 kc16 4 none ws own_r7 #[(.ref aH), (.ref aE)] Z h0 (Q88 Z aH aE M mb aS aG hd by_ ls f aE1 aB1 sq1 n1 aE2 aB2 sq2 n2 aB sq n aR aL bd hv aA g h0 n0) := by
 refine own_bd #[vR aH, vR aE, .unset, .unset] (plainFor_of_name pn_8) fun p e s m below meth c s₁ hx hby hml hrt hlk hZ hown hnm X0 e0 => ?_
 have N0 := Fr.nil n0
 refine o_al X0 hx hby q16_0 ?_
 refine o_cV X0 hx hZ hown hw hml hby (rm49 l Z a0 hw [] aE aB h0 n0 Z0 (P6.2.2.1)) (P6.1) e0 126 127 129 128 130 8 0 q16_1 [] [] pd_21 hy_8 fun v1 T1 L1 hQ1 X1 => ?_
 obtain ⟨rfl, Nq1, eq1⟩ := hQ1
 have N1 := Fr.app N0 Nq1
 refine oV ?_
 refine o_nB X1 hx hZ hby eq1 (P6.2.2.2) q16_4 ?_
 refine o_is X1 hx hby q16_5 #[vR aH, vR aE, vI n, .unset] ?_
 refine o_al X1 hx hby q16_6 ?_
 refine o_g X1 hx hZ hown hw hby eq1 (P0.2.2.2.2.2.2.1) 114 q16_7 fun T3 X3 e3 => ?_
 refine o_in X3 hx hby q16_10 ((if0 _ _).trans (tlt (by decide)).2.2.2) ?_
 refine o_al X3 hx hby q16_13 ?_
 refine o_g X3 hx hZ hown hw hby e3 (P0.2.2.2.2.2.2.1) 114 q16_14 fun T4 X4 e4 => ?_
 refine o_al X4 hx hby q16_17 ?_
 refine o_g X4 hx hZ hown hw hby e4 (P0.2.1) 79 q16_18 fun T5 X5 e5 => ?_
 have : (2 : Int32).toInt = 2 := (by decide)
 refine o_cn X5 hx hby q16_21 ((feq (show ¬ ((2 : Int32) = M) from mt (congrArg Int32.toInt) (by omega))).1) ?_
 refine o_al X5 hx hby q16_24 ?_
 refine o_g X5 hx hZ hown hw hby e5 (P0.2.2.2.2.2.2.2.1) 248 q16_25 fun T6 X6 e6 => ?_
 refine o_il X6 hx hby q16_28 ?_
 refine o_i2l X6 hx hby q16_29 ?_
 refine o_ladd X6 hx hby q16_30 ?_
 refine o_al X6 hx hby q16_31 ?_
 refine o_g X6 hx hZ hown hw hby e6 (P0.2.2.1) 81 q16_32 fun T7 X7 e7 => ?_
 refine o_lcmp X7 hx hby q16_35 ?_
 have := c_i2l n
 have := And.intro (c_ladd by_ (n).toInt64) (rng64 (by_ + (n).toInt64))
 refine o_iy X7 hx hby q16_36 46 ((if0 _ _).trans (flt (fun q => absurd ((lw_gt _ _).mp q) (show ¬ (mb < (by_ + (n.toInt64))) from mt Int64.lt_iff_toInt_lt.mp (by omega)))).2.2.2) ?_
 refine o_al X7 hx hby q16_46 ?_
 refine o_g X7 hx hZ hown hw hby e7 (P0.2.2.2.2.2.2.1) 114 q16_47 fun T8 X8 e8 => ?_
 refine o_al X8 hx hby q16_50 ?_
 refine o_g X8 hx hZ hown hw hby e8 (P0.2.1) 79 q16_51 fun T9 X9 e9 => ?_
 refine o_cn X9 hx hby q16_54 ((tlt (show (2 : Int32) < M from Int32.lt_iff_toInt_lt.mpr (by omega))).2.1) ?_
 refine o_il X9 hx hby q16_57 ?_
 refine o_i2l X9 hx hby q16_58 ?_
 refine o_al X9 hx hby q16_59 ?_
 refine o_g X9 hx hZ hown hw hby e9 (P0.2.2.1) 81 q16_60 fun T10 X10 e10 => ?_
 refine o_lcmp X10 hx hby q16_63 ?_
 refine o_in X10 hx hby q16_64 ((if0 _ _).trans (flt (fun q => absurd ((lw_gt _ _).mp q) (show ¬ (mb < (n.toInt64)) from mt Int64.lt_iff_toInt_lt.mp (by omega)))).2.2.1) ?_
 refine o_ic X10 hx hby 1 q16_67 ?_
 refine o_gt X10 hx hby q16_68 72 ?_
 refine o_is X10 hx hby q16_72 #[vR aH, vR aE, vI n, vI 1] ?_
 refine sg72 l Z a0 hw aH aE M mb aS aG hd by_ ls f aE1 aB1 sq1 n1 aE2 aB2 sq2 n2 aB sq n aR aL bd hv aA g h0 n0 Z0 P0 P1 P2 P3 P4 P5 P6 P7 P8 P9 P10 P11 P12 P13 P14 P15 P16 P17 P18 P19 P20 P21 P22 P23 (show 3 ≤ M.toInt from by omega) (show n1.toInt + n2.toInt + n.toInt ≤ mb.toInt from by omega) (show n1.toInt + n2.toInt + n.toInt + 384 ≤ bd.toInt from by omega) hx hby hml hZ hown X10 e10 N1 (fun T11 L11 hdq12 fq13 byq14 hvq15 gq16 X11 N11 Kq11 p11_0 p11_1 p11_2 p11_3 p11_4 p11_5 p11_6 p11_7 p11_8 p11_9 p11_10 => ?_)
 have wx17 : own_exs Z _ [aH, aG, aR, aS, aL, aA] ocl_6 := ⟨(P0.1), P1.exa, P7.exR, P7.exS, P7.exL, P8.exa, trivial⟩
 have ni18 := own_nin (P4.1) wx17 nc_14
 have ni19 := own_nin P4.exB wx17 nc_15
 have f20 := P4.keep Kq11 ni18 ni19
 have ni21 := own_nin (P5.1) wx17 nc_14
 have ni22 := own_nin P5.exB wx17 nc_15
 have f23 := P5.keep Kq11 ni21 ni22
 have ni24 := own_nin (P6.1) wx17 nc_14
 have ni25 := own_nin P6.exB wx17 nc_15
 have f26 := P6.keep Kq11 ni24 ni25
 have K27 := own_ktr (Keep.refl h0 [aH, aG, aR, aS, aL, aA]) Kq11
 have z28 := Nat.le_trans Z0 Kq11.1
 exact o_rv X11 hx hby hrt hlk q16_210 ⟨hdq12, fq13, byq14, hvq15, gq16, rfl, N11, K27, p11_0, p11_1, p11_2, p11_3, p11_4, p11_5, p11_6, p11_7, p11_8, p11_9, p11_10⟩
def Q89 (Z : State) (aH : Addr) (pq : Int64) (M : Int32) (mb : Int64) (aS aG : Addr) (hd sz : Int32) (by_ ls : Int64) (h0 : Heap) (n0 : Nat) (v : Option Value) (h : Heap) (L : List Loc) : Prop := v = some .null ∧ Fr n0 L ∧ h = h0
set_option maxRecDepth 65536 in
set_option maxHeartbeats 40000000 in
theorem rm89 (l Z a0) (hw : oW a0 Z) (ws) (aH : Addr) (pq : Int64) (M : Int32) (mb : Int64) (aS aG : Addr) (hd sz : Int32) (by_ ls : Int64) (h0 : Heap) (n0 : Nat) (Z0 : n0 ≤ h0.size) (P0 : own_Hi Z h0 aH M mb aS aG hd sz by_ ls) (P1 : 0 ≤ sz.toInt ∧ sz.toInt ≤ ls.toInt ∧ ls.toInt ≤ 3) (P2 : ¬ (ls.toInt - sz.toInt + 1 ≤ pq.toInt ∧ pq.toInt ≤ ls.toInt)) :
   own_Met l own_y21 kc13 5 (some (.object "com/example/lockstep/lockstep/session/Event")) ws own_r0 #[(.ref aH), (.long pq)] Z h0 (Q89 Z aH pq M mb aS aG hd sz by_ ls h0 n0) := by
 refine own_bd #[vR aH, vJ pq, .second, .unset, .unset] (plainFor_of_name pn_8) fun p e s m below meth c s₁ hx hby hml hrt hlk hZ hown hnm X0 e0 => ?_
 have N0 := Fr.nil n0
 refine o_ll X0 hx hby q13_0 ?_
 refine o_al X0 hx hby q13_1 ?_
 refine o_g X0 hx hZ hown hw hby e0 (P0.2.2.2.2.2.2.2.2) 112 q13_2 fun T1 X1 e1 => ?_
 refine o_al X1 hx hby q13_5 ?_
 refine o_g X1 hx hZ hown hw hby e1 (P0.2.2.2.2.2.2.1) 114 q13_6 fun T2 X2 e2 => ?_
 refine o_i2l X2 hx hby q13_9 ?_
 refine o_lsub X2 hx hby q13_10 ?_
 refine o_lc X2 hx hby 1 q13_11 ?_
 refine o_ladd X2 hx hby q13_12 ?_
 refine o_lsub X2 hx hby q13_13 ?_
 refine o_ls X2 hx hby q13_14 #[vR aH, vJ pq, .second, .val (.long (pq - ((ls - (sz.toInt64)) + (1 : Int64)))), .second] ?_
 refine o_ll X2 hx hby q13_15 ?_
 refine o_lc X2 hx hby 0 q13_16 ?_
 refine o_lcmp X2 hx hby q13_17 ?_
 by_cases hc3 : (pq - ((ls - (sz.toInt64)) + (1 : Int64))) < (0 : Int64)
 · refine o_iy X2 hx hby q13_18 54 ((if0 _ _).trans (tlt ((lw_lt _ _).mpr hc3)).1) ?_
   refine o_an X2 hx hby q13_54 ?_
   exact o_rA X2 hx hby hrt hlk q13_55 (by rw [e2]; exact ⟨rfl, N0, rfl⟩)
 · refine o_in X2 hx hby q13_18 ((if0 _ _).trans (flt (fun q => absurd ((lw_lt _ _).mp q) hc3)).1) ?_
   refine o_ll X2 hx hby q13_21 ?_
   refine o_al X2 hx hby q13_22 ?_
   refine o_g X2 hx hZ hown hw hby e2 (P0.2.2.2.2.2.2.1) 114 q13_23 fun T4 X4 e4 => ?_
   refine o_i2l X4 hx hby q13_26 ?_
   refine o_lcmp X4 hx hby q13_27 ?_
   have := (mt Int64.lt_iff_toInt_lt.mpr hc3)
   have := rng64 pq
   have := c_i2l sz
   have := And.intro (c_lsub ls (sz).toInt64) (rng64 (ls - (sz).toInt64))
   have : (1 : Int64).toInt = 1 := (by decide)
   have := And.intro (c_ladd (ls - (sz).toInt64) (1 : Int64)) (rng64 ((ls - (sz).toInt64) + (1 : Int64)))
   have := And.intro (c_lsub pq ((ls - (sz).toInt64) + (1 : Int64))) (rng64 (pq - ((ls - (sz).toInt64) + (1 : Int64))))
   have : (0 : Int64).toInt = 0 := (by decide)
   refine o_iy X4 hx hby q13_28 54 ((if0 _ _).trans (flt (fun q => absurd ((lw_lt _ _).mp q) (show ¬ ((pq - ((ls - (sz.toInt64)) + (1 : Int64))) < (sz.toInt64)) from mt Int64.lt_iff_toInt_lt.mp (by omega)))).2.1) ?_
   refine o_an X4 hx hby q13_54 ?_
   exact o_rA X4 hx hby hrt hlk q13_55 (by rw [e4]; exact ⟨rfl, N0, rfl⟩)
def Q90 (Z : State) (aH : Addr) (pq : Int64) (M : Int32) (mb : Int64) (aS aG : Addr) (hd sz : Int32) (by_ ls : Int64) (f : Nat → Value) (aE : Addr) (h0 : Heap) (n0 : Nat) (v : Option Value) (h : Heap) (L : List Loc) : Prop := v = some (.ref aE) ∧ Fr n0 L ∧ h = h0
set_option maxRecDepth 65536 in
set_option maxHeartbeats 40000000 in
theorem rm90 (l Z a0) (hw : oW a0 Z) (ws) (aH : Addr) (pq : Int64) (M : Int32) (mb : Int64) (aS aG : Addr) (hd sz : Int32) (by_ ls : Int64) (f : Nat → Value) (aE : Addr) (h0 : Heap) (n0 : Nat) (Z0 : n0 ≤ h0.size) (P0 : own_Hi Z h0 aH M mb aS aG hd sz by_ ls) (P1 : own_RE Z h0 aG M f) (P2 : f hd.toNatClampNeg = .ref aE) (P3 : 0 ≤ M.toInt ∧ M.toInt ≤ 7) (P4 : 0 ≤ hd.toInt ∧ hd.toInt < M.toInt) (P5 : 0 ≤ sz.toInt ∧ sz.toInt ≤ ls.toInt ∧ ls.toInt ≤ 3) (P6 : 0 < sz.toInt) (P7 : pq.toInt = ls.toInt - sz.toInt + 1) :
   own_Met l own_y21 kc13 5 (some (.object "com/example/lockstep/lockstep/session/Event")) ws own_r0 #[(.ref aH), (.long pq)] Z h0 (Q90 Z aH pq M mb aS aG hd sz by_ ls f aE h0 n0) := by
 refine own_bd #[vR aH, vJ pq, .second, .unset, .unset] (plainFor_of_name pn_8) fun p e s m below meth c s₁ hx hby hml hrt hlk hZ hown hnm X0 e0 => ?_
 have N0 := Fr.nil n0
 refine o_ll X0 hx hby q13_0 ?_
 refine o_al X0 hx hby q13_1 ?_
 refine o_g X0 hx hZ hown hw hby e0 (P0.2.2.2.2.2.2.2.2) 112 q13_2 fun T1 X1 e1 => ?_
 refine o_al X1 hx hby q13_5 ?_
 refine o_g X1 hx hZ hown hw hby e1 (P0.2.2.2.2.2.2.1) 114 q13_6 fun T2 X2 e2 => ?_
 refine o_i2l X2 hx hby q13_9 ?_
 refine o_lsub X2 hx hby q13_10 ?_
 refine o_lc X2 hx hby 1 q13_11 ?_
 refine o_ladd X2 hx hby q13_12 ?_
 refine o_lsub X2 hx hby q13_13 ?_
 refine o_ls X2 hx hby q13_14 #[vR aH, vJ pq, .second, .val (.long (pq - ((ls - (sz.toInt64)) + (1 : Int64)))), .second] ?_
 refine o_ll X2 hx hby q13_15 ?_
 refine o_lc X2 hx hby 0 q13_16 ?_
 refine o_lcmp X2 hx hby q13_17 ?_
 have := c_i2l sz
 have := And.intro (c_lsub ls (sz).toInt64) (rng64 (ls - (sz).toInt64))
 have : (1 : Int64).toInt = 1 := (by decide)
 have := And.intro (c_ladd (ls - (sz).toInt64) (1 : Int64)) (rng64 ((ls - (sz).toInt64) + (1 : Int64)))
 have := And.intro (c_lsub pq ((ls - (sz).toInt64) + (1 : Int64))) (rng64 (pq - ((ls - (sz).toInt64) + (1 : Int64))))
 have : (0 : Int64).toInt = 0 := (by decide)
 refine o_in X2 hx hby q13_18 ((if0 _ _).trans (flt (fun q => absurd ((lw_lt _ _).mp q) (show ¬ ((pq - ((ls - (sz.toInt64)) + (1 : Int64))) < (0 : Int64)) from mt Int64.lt_iff_toInt_lt.mp (by omega)))).1) ?_
 refine o_ll X2 hx hby q13_21 ?_
 refine o_al X2 hx hby q13_22 ?_
 refine o_g X2 hx hZ hown hw hby e2 (P0.2.2.2.2.2.2.1) 114 q13_23 fun T3 X3 e3 => ?_
 refine o_i2l X3 hx hby q13_26 ?_
 refine o_lcmp X3 hx hby q13_27 ?_
 refine o_in X3 hx hby q13_28 ((if0 _ _).trans (tlt ((lw_lt _ _).mpr (show (pq - ((ls - (sz.toInt64)) + (1 : Int64))) < (sz.toInt64) from Int64.lt_iff_toInt_lt.mpr (by omega)))).2.1) ?_
 refine o_al X3 hx hby q13_31 ?_
 refine o_g X3 hx hZ hown hw hby e3 (P0.2.2.2.2.1) 77 q13_32 fun T4 X4 e4 => ?_
 refine o_al X4 hx hby q13_35 ?_
 refine o_g X4 hx hZ hown hw hby e4 (P0.2.2.2.2.2.1) 246 q13_36 fun T5 X5 e5 => ?_
 refine o_i2l X5 hx hby q13_39 ?_
 refine o_ll X5 hx hby q13_40 ?_
 refine o_ladd X5 hx hby q13_41 ?_
 refine o_al X5 hx hby q13_42 ?_
 refine o_g X5 hx hZ hown hw hby e5 (P0.2.2.2.2.1) 77 q13_43 fun T6 X6 e6 => ?_
 refine o_nG X6 hx hZ hby e6 P1 q13_46 ?_
 refine o_i2l X6 hx hby q13_47 ?_
 have := c_i2l M
 refine oS (fun _ κ => XS.lrem X6.here hx rfl (hb hby q13_48) rfl (show ¬ ((M.toInt64) = (0 : Int64)) from mt (congrArg Int64.toInt) (by omega)) κ) ?_
 show oG _ _ _ _ (T6.setTop (mkF m 49 #[vR aH, vJ pq, .second, .val (.long (pq - ((ls - (sz.toInt64)) + (1 : Int64)))), .second] [(.long (((hd.toInt64) + (pq - ((ls - (sz.toInt64)) + (1 : Int64)))) - (((hd.toInt64) + (pq - ((ls - (sz.toInt64)) + (1 : Int64)))) / (M.toInt64)) * (M.toInt64))), (.ref aG)]))
 refine o_l2i X6 hx hby q13_49 ?_
 show oG _ _ _ _ (T6.setTop (mkF m 50 #[vR aH, vJ pq, .second, .val (.long (pq - ((ls - (sz.toInt64)) + (1 : Int64)))), .second] [(.int ((((hd.toInt64) + (pq - ((ls - (sz.toInt64)) + (1 : Int64)))) - (((hd.toInt64) + (pq - ((ls - (sz.toInt64)) + (1 : Int64)))) / (M.toInt64)) * (M.toInt64)).toInt32)), (.ref aG)]))
 have : (0 : Int32).toInt = 0 := (by decide)
 rw [own_gx0 P3 P4 (show (pq - ((ls - (sz.toInt64)) + (1 : Int64))).toInt = (0 : Int32).toInt from by omega)]
 show oG _ _ _ _ (T6.setTop (mkF m 50 #[vR aH, vJ pq, .second, .val (.long (pq - ((ls - (sz.toInt64)) + (1 : Int64)))), .second] [(.int hd), (.ref aG)]))
 refine o_aa (v := (.ref aE)) X6 hx hZ hby e6 P1 q13_50 ⟨(show ¬ (hd < (0 : Int32)) from mt Int32.lt_iff_toInt_lt.mp (by omega)), (show hd < M from Int32.lt_iff_toInt_lt.mpr (by omega))⟩ P2 ?_
 refine o_gt X6 hx hby q13_51 55 ?_
 exact o_rA X6 hx hby hrt hlk q13_55 (by rw [e6]; exact ⟨rfl, N0, rfl⟩)
def Q91 (Z : State) (aH : Addr) (pq : Int64) (M : Int32) (mb : Int64) (aS aG : Addr) (hd sz : Int32) (by_ ls : Int64) (f : Nat → Value) (aE : Addr) (h0 : Heap) (n0 : Nat) (v : Option Value) (h : Heap) (L : List Loc) : Prop := v = some (.ref aE) ∧ Fr n0 L ∧ h = h0
set_option maxRecDepth 65536 in
set_option maxHeartbeats 40000000 in
theorem rm91 (l Z a0) (hw : oW a0 Z) (ws) (aH : Addr) (pq : Int64) (M : Int32) (mb : Int64) (aS aG : Addr) (hd sz : Int32) (by_ ls : Int64) (f : Nat → Value) (aE : Addr) (h0 : Heap) (n0 : Nat) (Z0 : n0 ≤ h0.size) (P0 : own_Hi Z h0 aH M mb aS aG hd sz by_ ls) (P1 : own_RE Z h0 aG M f) (P2 : f ((hd + (1 : Int32)) % M).toNatClampNeg = .ref aE) (P3 : 0 ≤ M.toInt ∧ M.toInt ≤ 7) (P4 : 0 ≤ hd.toInt ∧ hd.toInt < M.toInt) (P5 : 0 ≤ sz.toInt ∧ sz.toInt ≤ ls.toInt ∧ ls.toInt ≤ 3) (P6 : 1 < sz.toInt) (P7 : pq.toInt = ls.toInt - sz.toInt + 2) :
   own_Met l own_y21 kc13 5 (some (.object "com/example/lockstep/lockstep/session/Event")) ws own_r0 #[(.ref aH), (.long pq)] Z h0 (Q91 Z aH pq M mb aS aG hd sz by_ ls f aE h0 n0) := by
 refine own_bd #[vR aH, vJ pq, .second, .unset, .unset] (plainFor_of_name pn_8) fun p e s m below meth c s₁ hx hby hml hrt hlk hZ hown hnm X0 e0 => ?_
 have N0 := Fr.nil n0
 refine o_ll X0 hx hby q13_0 ?_
 refine o_al X0 hx hby q13_1 ?_
 refine o_g X0 hx hZ hown hw hby e0 (P0.2.2.2.2.2.2.2.2) 112 q13_2 fun T1 X1 e1 => ?_
 refine o_al X1 hx hby q13_5 ?_
 refine o_g X1 hx hZ hown hw hby e1 (P0.2.2.2.2.2.2.1) 114 q13_6 fun T2 X2 e2 => ?_
 refine o_i2l X2 hx hby q13_9 ?_
 refine o_lsub X2 hx hby q13_10 ?_
 refine o_lc X2 hx hby 1 q13_11 ?_
 refine o_ladd X2 hx hby q13_12 ?_
 refine o_lsub X2 hx hby q13_13 ?_
 refine o_ls X2 hx hby q13_14 #[vR aH, vJ pq, .second, .val (.long (pq - ((ls - (sz.toInt64)) + (1 : Int64)))), .second] ?_
 refine o_ll X2 hx hby q13_15 ?_
 refine o_lc X2 hx hby 0 q13_16 ?_
 refine o_lcmp X2 hx hby q13_17 ?_
 have := c_i2l sz
 have := And.intro (c_lsub ls (sz).toInt64) (rng64 (ls - (sz).toInt64))
 have : (1 : Int64).toInt = 1 := (by decide)
 have := And.intro (c_ladd (ls - (sz).toInt64) (1 : Int64)) (rng64 ((ls - (sz).toInt64) + (1 : Int64)))
 have := And.intro (c_lsub pq ((ls - (sz).toInt64) + (1 : Int64))) (rng64 (pq - ((ls - (sz).toInt64) + (1 : Int64))))
 have : (0 : Int64).toInt = 0 := (by decide)
 refine o_in X2 hx hby q13_18 ((if0 _ _).trans (flt (fun q => absurd ((lw_lt _ _).mp q) (show ¬ ((pq - ((ls - (sz.toInt64)) + (1 : Int64))) < (0 : Int64)) from mt Int64.lt_iff_toInt_lt.mp (by omega)))).1) ?_
 refine o_ll X2 hx hby q13_21 ?_
 refine o_al X2 hx hby q13_22 ?_
 refine o_g X2 hx hZ hown hw hby e2 (P0.2.2.2.2.2.2.1) 114 q13_23 fun T3 X3 e3 => ?_
 refine o_i2l X3 hx hby q13_26 ?_
 refine o_lcmp X3 hx hby q13_27 ?_
 refine o_in X3 hx hby q13_28 ((if0 _ _).trans (tlt ((lw_lt _ _).mpr (show (pq - ((ls - (sz.toInt64)) + (1 : Int64))) < (sz.toInt64) from Int64.lt_iff_toInt_lt.mpr (by omega)))).2.1) ?_
 refine o_al X3 hx hby q13_31 ?_
 refine o_g X3 hx hZ hown hw hby e3 (P0.2.2.2.2.1) 77 q13_32 fun T4 X4 e4 => ?_
 refine o_al X4 hx hby q13_35 ?_
 refine o_g X4 hx hZ hown hw hby e4 (P0.2.2.2.2.2.1) 246 q13_36 fun T5 X5 e5 => ?_
 refine o_i2l X5 hx hby q13_39 ?_
 refine o_ll X5 hx hby q13_40 ?_
 refine o_ladd X5 hx hby q13_41 ?_
 refine o_al X5 hx hby q13_42 ?_
 refine o_g X5 hx hZ hown hw hby e5 (P0.2.2.2.2.1) 77 q13_43 fun T6 X6 e6 => ?_
 refine o_nG X6 hx hZ hby e6 P1 q13_46 ?_
 refine o_i2l X6 hx hby q13_47 ?_
 have := c_i2l M
 refine oS (fun _ κ => XS.lrem X6.here hx rfl (hb hby q13_48) rfl (show ¬ ((M.toInt64) = (0 : Int64)) from mt (congrArg Int64.toInt) (by omega)) κ) ?_
 show oG _ _ _ _ (T6.setTop (mkF m 49 #[vR aH, vJ pq, .second, .val (.long (pq - ((ls - (sz.toInt64)) + (1 : Int64)))), .second] [(.long (((hd.toInt64) + (pq - ((ls - (sz.toInt64)) + (1 : Int64)))) - (((hd.toInt64) + (pq - ((ls - (sz.toInt64)) + (1 : Int64)))) / (M.toInt64)) * (M.toInt64))), (.ref aG)]))
 refine o_l2i X6 hx hby q13_49 ?_
 show oG _ _ _ _ (T6.setTop (mkF m 50 #[vR aH, vJ pq, .second, .val (.long (pq - ((ls - (sz.toInt64)) + (1 : Int64)))), .second] [(.int ((((hd.toInt64) + (pq - ((ls - (sz.toInt64)) + (1 : Int64)))) - (((hd.toInt64) + (pq - ((ls - (sz.toInt64)) + (1 : Int64)))) / (M.toInt64)) * (M.toInt64)).toInt32)), (.ref aG)]))
 have : (1 : Int32).toInt = 1 := (by decide)
 rw [own_gx (k := (1 : Int32)) P3 P4 (by decide) (show (pq - ((ls - (sz.toInt64)) + (1 : Int64))).toInt = (1 : Int32).toInt from by omega)]
 show oG _ _ _ _ (T6.setTop (mkF m 50 #[vR aH, vJ pq, .second, .val (.long (pq - ((ls - (sz.toInt64)) + (1 : Int64)))), .second] [(.int ((hd + (1 : Int32)) % M)), (.ref aG)]))
 have := And.intro (c_iadd hd (1 : Int32)) (rng32 (hd + (1 : Int32)))
 have := c_iremV (hd + (1 : Int32)) M
 have : (0 : Int32).toInt = 0 := (by decide)
 refine o_aa (v := (.ref aE)) X6 hx hZ hby e6 P1 q13_50 ⟨(show ¬ (((hd + (1 : Int32)) % M) < (0 : Int32)) from mt Int32.lt_iff_toInt_lt.mp (by omega)), (show ((hd + (1 : Int32)) % M) < M from Int32.lt_iff_toInt_lt.mpr (by omega))⟩ P2 ?_
 refine o_gt X6 hx hby q13_51 55 ?_
 exact o_rA X6 hx hby hrt hlk q13_55 (by rw [e6]; exact ⟨rfl, N0, rfl⟩)
def Q92 (Z : State) (aH : Addr) (pq : Int64) (M : Int32) (mb : Int64) (aS aG : Addr) (hd sz : Int32) (by_ ls : Int64) (f : Nat → Value) (aE : Addr) (h0 : Heap) (n0 : Nat) (v : Option Value) (h : Heap) (L : List Loc) : Prop := v = some (.ref aE) ∧ Fr n0 L ∧ h = h0
set_option maxRecDepth 65536 in
set_option maxHeartbeats 40000000 in
theorem rm92 (l Z a0) (hw : oW a0 Z) (ws) (aH : Addr) (pq : Int64) (M : Int32) (mb : Int64) (aS aG : Addr) (hd sz : Int32) (by_ ls : Int64) (f : Nat → Value) (aE : Addr) (h0 : Heap) (n0 : Nat) (Z0 : n0 ≤ h0.size) (P0 : own_Hi Z h0 aH M mb aS aG hd sz by_ ls) (P1 : own_RE Z h0 aG M f) (P2 : f ((hd + (2 : Int32)) % M).toNatClampNeg = .ref aE) (P3 : 0 ≤ M.toInt ∧ M.toInt ≤ 7) (P4 : 0 ≤ hd.toInt ∧ hd.toInt < M.toInt) (P5 : 0 ≤ sz.toInt ∧ sz.toInt ≤ ls.toInt ∧ ls.toInt ≤ 3) (P6 : 2 < sz.toInt) (P7 : pq.toInt = ls.toInt - sz.toInt + 3) :
   own_Met l own_y21 kc13 5 (some (.object "com/example/lockstep/lockstep/session/Event")) ws own_r0 #[(.ref aH), (.long pq)] Z h0 (Q92 Z aH pq M mb aS aG hd sz by_ ls f aE h0 n0) := by
 refine own_bd #[vR aH, vJ pq, .second, .unset, .unset] (plainFor_of_name pn_8) fun p e s m below meth c s₁ hx hby hml hrt hlk hZ hown hnm X0 e0 => ?_
 have N0 := Fr.nil n0
 refine o_ll X0 hx hby q13_0 ?_
 refine o_al X0 hx hby q13_1 ?_
 refine o_g X0 hx hZ hown hw hby e0 (P0.2.2.2.2.2.2.2.2) 112 q13_2 fun T1 X1 e1 => ?_
 refine o_al X1 hx hby q13_5 ?_
 refine o_g X1 hx hZ hown hw hby e1 (P0.2.2.2.2.2.2.1) 114 q13_6 fun T2 X2 e2 => ?_
 refine o_i2l X2 hx hby q13_9 ?_
 refine o_lsub X2 hx hby q13_10 ?_
 refine o_lc X2 hx hby 1 q13_11 ?_
 refine o_ladd X2 hx hby q13_12 ?_
 refine o_lsub X2 hx hby q13_13 ?_
 refine o_ls X2 hx hby q13_14 #[vR aH, vJ pq, .second, .val (.long (pq - ((ls - (sz.toInt64)) + (1 : Int64)))), .second] ?_
 refine o_ll X2 hx hby q13_15 ?_
 refine o_lc X2 hx hby 0 q13_16 ?_
 refine o_lcmp X2 hx hby q13_17 ?_
 have := c_i2l sz
 have := And.intro (c_lsub ls (sz).toInt64) (rng64 (ls - (sz).toInt64))
 have : (1 : Int64).toInt = 1 := (by decide)
 have := And.intro (c_ladd (ls - (sz).toInt64) (1 : Int64)) (rng64 ((ls - (sz).toInt64) + (1 : Int64)))
 have := And.intro (c_lsub pq ((ls - (sz).toInt64) + (1 : Int64))) (rng64 (pq - ((ls - (sz).toInt64) + (1 : Int64))))
 have : (0 : Int64).toInt = 0 := (by decide)
 refine o_in X2 hx hby q13_18 ((if0 _ _).trans (flt (fun q => absurd ((lw_lt _ _).mp q) (show ¬ ((pq - ((ls - (sz.toInt64)) + (1 : Int64))) < (0 : Int64)) from mt Int64.lt_iff_toInt_lt.mp (by omega)))).1) ?_
 refine o_ll X2 hx hby q13_21 ?_
 refine o_al X2 hx hby q13_22 ?_
 refine o_g X2 hx hZ hown hw hby e2 (P0.2.2.2.2.2.2.1) 114 q13_23 fun T3 X3 e3 => ?_
 refine o_i2l X3 hx hby q13_26 ?_
 refine o_lcmp X3 hx hby q13_27 ?_
 refine o_in X3 hx hby q13_28 ((if0 _ _).trans (tlt ((lw_lt _ _).mpr (show (pq - ((ls - (sz.toInt64)) + (1 : Int64))) < (sz.toInt64) from Int64.lt_iff_toInt_lt.mpr (by omega)))).2.1) ?_
 refine o_al X3 hx hby q13_31 ?_
 refine o_g X3 hx hZ hown hw hby e3 (P0.2.2.2.2.1) 77 q13_32 fun T4 X4 e4 => ?_
 refine o_al X4 hx hby q13_35 ?_
 refine o_g X4 hx hZ hown hw hby e4 (P0.2.2.2.2.2.1) 246 q13_36 fun T5 X5 e5 => ?_
 refine o_i2l X5 hx hby q13_39 ?_
 refine o_ll X5 hx hby q13_40 ?_
 refine o_ladd X5 hx hby q13_41 ?_
 refine o_al X5 hx hby q13_42 ?_
 refine o_g X5 hx hZ hown hw hby e5 (P0.2.2.2.2.1) 77 q13_43 fun T6 X6 e6 => ?_
 refine o_nG X6 hx hZ hby e6 P1 q13_46 ?_
 refine o_i2l X6 hx hby q13_47 ?_
 have := c_i2l M
 refine oS (fun _ κ => XS.lrem X6.here hx rfl (hb hby q13_48) rfl (show ¬ ((M.toInt64) = (0 : Int64)) from mt (congrArg Int64.toInt) (by omega)) κ) ?_
 show oG _ _ _ _ (T6.setTop (mkF m 49 #[vR aH, vJ pq, .second, .val (.long (pq - ((ls - (sz.toInt64)) + (1 : Int64)))), .second] [(.long (((hd.toInt64) + (pq - ((ls - (sz.toInt64)) + (1 : Int64)))) - (((hd.toInt64) + (pq - ((ls - (sz.toInt64)) + (1 : Int64)))) / (M.toInt64)) * (M.toInt64))), (.ref aG)]))
 refine o_l2i X6 hx hby q13_49 ?_
 show oG _ _ _ _ (T6.setTop (mkF m 50 #[vR aH, vJ pq, .second, .val (.long (pq - ((ls - (sz.toInt64)) + (1 : Int64)))), .second] [(.int ((((hd.toInt64) + (pq - ((ls - (sz.toInt64)) + (1 : Int64)))) - (((hd.toInt64) + (pq - ((ls - (sz.toInt64)) + (1 : Int64)))) / (M.toInt64)) * (M.toInt64)).toInt32)), (.ref aG)]))
 have : (2 : Int32).toInt = 2 := (by decide)
 rw [own_gx (k := (2 : Int32)) P3 P4 (by decide) (show (pq - ((ls - (sz.toInt64)) + (1 : Int64))).toInt = (2 : Int32).toInt from by omega)]
 show oG _ _ _ _ (T6.setTop (mkF m 50 #[vR aH, vJ pq, .second, .val (.long (pq - ((ls - (sz.toInt64)) + (1 : Int64)))), .second] [(.int ((hd + (2 : Int32)) % M)), (.ref aG)]))
 have := And.intro (c_iadd hd (2 : Int32)) (rng32 (hd + (2 : Int32)))
 have := c_iremV (hd + (2 : Int32)) M
 have : (0 : Int32).toInt = 0 := (by decide)
 refine o_aa (v := (.ref aE)) X6 hx hZ hby e6 P1 q13_50 ⟨(show ¬ (((hd + (2 : Int32)) % M) < (0 : Int32)) from mt Int32.lt_iff_toInt_lt.mp (by omega)), (show ((hd + (2 : Int32)) % M) < M from Int32.lt_iff_toInt_lt.mpr (by omega))⟩ P2 ?_
 refine o_gt X6 hx hby q13_51 55 ?_
 exact o_rA X6 hx hby hrt hlk q13_55 (by rw [e6]; exact ⟨rfl, N0, rfl⟩)
def Q93 (Z : State) (pk : Int32) (sm_ : Int64) (pM : Int32) (pB pD : Int64) (h0 : Heap) (n0 : Nat) (v : Option Value) (h : Heap) (L : List Loc) : Prop := v = some (.int 1) ∧ Fr n0 L ∧ h = h0
set_option maxRecDepth 65536 in
set_option maxHeartbeats 40000000 in
theorem rm93 (l Z a0) (hw : oW a0 Z) (ws) (pk : Int32) (sm_ : Int64) (pM : Int32) (pB pD : Int64) (h0 : Heap) (n0 : Nat) (Z0 : n0 ≤ h0.size) (P0 : 0 ≤ sm_.toInt ∧ sm_.toInt ≤ 21) (P1 : 1 ≤ pk.toInt ∧ pk.toInt ≤ 3) (P2 : (pk.toInt ≤ pM.toInt ∧ sm_.toInt ≤ pB.toInt ∧ sm_.toInt + (128 * pk.toInt) ≤ pD.toInt)) :
   own_Met l own_y23 kc42 8 (some .boolean) ws own_r0 #[(.int pk), (.long sm_), (.int pM), (.long pB), (.long pD)] Z h0 (Q93 Z pk sm_ pM pB pD  h0 n0) := by
 refine own_bd #[vI pk, vJ sm_, .second, vI pM, vJ pB, .second, vJ pD, .second] (plainFor_of_name pn_9) fun p e s m below meth c s₁ hx hby hml hrt hlk hZ hown hnm X0 e0 => ?_
 have N0 := Fr.nil n0
 refine o_il X0 hx hby q42_0 ?_
 refine o_il X0 hx hby q42_1 ?_
 have := rng64 sm_
 have := rng64 pB
 have := rng64 pD
 refine o_cn X0 hx hby q42_2 ((flt (show ¬ (pM < pk) from mt Int32.lt_iff_toInt_lt.mp (by omega))).2.2.1) ?_
 refine o_ll X0 hx hby q42_5 ?_
 refine o_lw X0 hx hby q42_6 ?_
 refine o_lcmp X0 hx hby q42_8 ?_
 refine o_in X0 hx hby q42_9 ((if0 _ _).trans (flt (fun q => absurd ((lw_gt _ _).mp q) (show ¬ (pB < sm_) from mt Int64.lt_iff_toInt_lt.mp (by omega)))).2.2.1) ?_
 refine o_ll X0 hx hby q42_12 ?_
 refine oS (fun _ κ => X0.ldc2Long hx hown (mvT hZ (own_w hw 262 rfl)) (g := (mkF m 13 #[vI pk, vJ sm_, .second, vI pM, vJ pB, .second, vJ pD, .second] [(.long sm_)])) rfl (hb hby q42_13) _ κ) ?_
 show oG _ _ _ _ (s₁.setTop (mkF m 16 #[vI pk, vJ sm_, .second, vI pM, vJ pB, .second, vJ pD, .second] [(.long 128), (.long sm_)]))
 refine o_il X0 hx hby q42_16 ?_
 refine o_i2l X0 hx hby q42_17 ?_
 refine o_lmul X0 hx hby q42_18 ?_
 refine o_ladd X0 hx hby q42_19 ?_
 refine o_lw X0 hx hby q42_20 ?_
 refine o_lcmp X0 hx hby q42_22 ?_
 have : (128 : Int64).toInt = 128 := (by decide)
 have := c_i2l pk
 have := And.intro (own_lmk (128 : Int64) 128 (by decide) (pk).toInt64) (rng64 ((128 : Int64) * (pk).toInt64))
 have := And.intro (c_ladd sm_ ((128 : Int64) * (pk).toInt64)) (rng64 (sm_ + ((128 : Int64) * (pk).toInt64)))
 refine o_in X0 hx hby q42_23 ((if0 _ _).trans (flt (fun q => absurd ((lw_gt _ _).mp q) (show ¬ (pD < (sm_ + ((128 : Int64) * (pk.toInt64)))) from mt Int64.lt_iff_toInt_lt.mp (by omega)))).2.2.1) ?_
 refine o_ic X0 hx hby 1 q42_26 ?_
 refine o_gt X0 hx hby q42_27 31 ?_
 exact o_rZ X0 hx hby hrt hlk q42_31 (by rw [e0]; exact ⟨rfl, N0, rfl⟩)
def Q94 (Z : State) (pk : Int32) (sm_ : Int64) (pM : Int32) (pB pD : Int64) (h0 : Heap) (n0 : Nat) (v : Option Value) (h : Heap) (L : List Loc) : Prop := v = some (.int 0) ∧ Fr n0 L ∧ h = h0
set_option maxRecDepth 65536 in
set_option maxHeartbeats 40000000 in
theorem rm94 (l Z a0) (hw : oW a0 Z) (ws) (pk : Int32) (sm_ : Int64) (pM : Int32) (pB pD : Int64) (h0 : Heap) (n0 : Nat) (Z0 : n0 ≤ h0.size) (P0 : 0 ≤ sm_.toInt ∧ sm_.toInt ≤ 21) (P1 : 1 ≤ pk.toInt ∧ pk.toInt ≤ 3) (P2 : ¬ (pk.toInt ≤ pM.toInt ∧ sm_.toInt ≤ pB.toInt ∧ sm_.toInt + (128 * pk.toInt) ≤ pD.toInt)) :
   own_Met l own_y23 kc42 8 (some .boolean) ws own_r0 #[(.int pk), (.long sm_), (.int pM), (.long pB), (.long pD)] Z h0 (Q94 Z pk sm_ pM pB pD  h0 n0) := by
 refine own_bd #[vI pk, vJ sm_, .second, vI pM, vJ pB, .second, vJ pD, .second] (plainFor_of_name pn_9) fun p e s m below meth c s₁ hx hby hml hrt hlk hZ hown hnm X0 e0 => ?_
 have N0 := Fr.nil n0
 refine o_il X0 hx hby q42_0 ?_
 refine o_il X0 hx hby q42_1 ?_
 by_cases hc1 : pM < pk
 · refine o_cy X0 hx hby q42_2 30 ((tlt hc1).2.2.1) ?_
   refine o_ic X0 hx hby 0 q42_30 ?_
   exact o_rZ X0 hx hby hrt hlk q42_31 (by rw [e0]; exact ⟨rfl, N0, rfl⟩)
 · refine o_cn X0 hx hby q42_2 ((flt hc1).2.2.1) ?_
   refine o_ll X0 hx hby q42_5 ?_
   refine o_lw X0 hx hby q42_6 ?_
   refine o_lcmp X0 hx hby q42_8 ?_
   by_cases hc2 : pB < sm_
   · refine o_iy X0 hx hby q42_9 30 ((if0 _ _).trans (tlt ((lw_gt _ _).mpr hc2)).2.2.1) ?_
     refine o_ic X0 hx hby 0 q42_30 ?_
     exact o_rZ X0 hx hby hrt hlk q42_31 (by rw [e0]; exact ⟨rfl, N0, rfl⟩)
   · refine o_in X0 hx hby q42_9 ((if0 _ _).trans (flt (fun q => absurd ((lw_gt _ _).mp q) hc2)).2.2.1) ?_
     refine o_ll X0 hx hby q42_12 ?_
     refine oS (fun _ κ => X0.ldc2Long hx hown (mvT hZ (own_w hw 262 rfl)) (g := (mkF m 13 #[vI pk, vJ sm_, .second, vI pM, vJ pB, .second, vJ pD, .second] [(.long sm_)])) rfl (hb hby q42_13) _ κ) ?_
     show oG _ _ _ _ (s₁.setTop (mkF m 16 #[vI pk, vJ sm_, .second, vI pM, vJ pB, .second, vJ pD, .second] [(.long 128), (.long sm_)]))
     refine o_il X0 hx hby q42_16 ?_
     refine o_i2l X0 hx hby q42_17 ?_
     refine o_lmul X0 hx hby q42_18 ?_
     refine o_ladd X0 hx hby q42_19 ?_
     refine o_lw X0 hx hby q42_20 ?_
     refine o_lcmp X0 hx hby q42_22 ?_
     have := (mt Int32.lt_iff_toInt_lt.mpr hc1)
     have := (mt Int64.lt_iff_toInt_lt.mpr hc2)
     have := rng64 sm_
     have := rng64 pB
     have := rng64 pD
     have : (128 : Int64).toInt = 128 := (by decide)
     have := c_i2l pk
     have := And.intro (own_lmk (128 : Int64) 128 (by decide) (pk).toInt64) (rng64 ((128 : Int64) * (pk).toInt64))
     have := And.intro (c_ladd sm_ ((128 : Int64) * (pk).toInt64)) (rng64 (sm_ + ((128 : Int64) * (pk).toInt64)))
     refine o_iy X0 hx hby q42_23 30 ((if0 _ _).trans (tlt ((lw_gt _ _).mpr (show pD < (sm_ + ((128 : Int64) * (pk.toInt64))) from Int64.lt_iff_toInt_lt.mpr (by omega)))).2.2.1) ?_
     refine o_ic X0 hx hby 0 q42_30 ?_
     exact o_rZ X0 hx hby hrt hlk q42_31 (by rw [e0]; exact ⟨rfl, N0, rfl⟩)
def Q95 (Z : State) (aN : Addr) (pM : Int32) (pB pD : Int64) (kN : ClassId) (n1 n2 n3 : Int32) (h0 : Heap) (n0 : Nat) (v : Option Value) (h : Heap) (L : List Loc) : Prop := v = some (.int 0) ∧ Fr n0 L ∧ h = h0
set_option maxRecDepth 65536 in
set_option maxHeartbeats 40000000 in
theorem rm95 (l Z a0) (hw : oW a0 Z) (ws) (aN : Addr) (pM : Int32) (pB pD : Int64) (kN : ClassId) (n1 n2 n3 : Int32) (h0 : Heap) (n0 : Nat) (Z0 : n0 ≤ h0.size) (P0 : Arv Z h0 aN kN .int (4 : Int32) [(.int 0), (.int n1), (.int n2), (.int n3)] (.int 0)) (P1 : 0 ≤ n1.toInt ∧ n1.toInt ≤ 7) (P2 : 0 ≤ n2.toInt ∧ n2.toInt ≤ 7) (P3 : 0 ≤ n3.toInt ∧ n3.toInt ≤ 7) (P4 : 0 ≤ pM.toInt ∧ pM.toInt ≤ 7) (P5 : 0 ≤ pB.toInt) :
   own_Met l own_y24 kc43 8 (some .int) ws own_r0 #[(.int 0), (.ref aN), (.int pM), (.long pB), (.long pD)] Z h0 (Q95 Z aN pM pB pD kN n1 n2 n3 h0 n0) := by
 refine own_bd #[vI 0, vR aN, vI pM, vJ pB, .second, vJ pD, .second, .unset] (plainFor_of_name pn_9) fun p e s m below meth c s₁ hx hby hml hrt hlk hZ hown hnm X0 e0 => ?_
 have N0 := Fr.nil n0
 refine o_ic X0 hx hby 0 q43_0 ?_
 refine o_isw X0 hx hby q43_1 #[vI 0, vR aN, vI pM, vJ pB, .second, vJ pD, .second, vI 0] ?_
 refine o_il X0 hx hby q43_3 ?_
 refine o_ic X0 hx hby 1 q43_4 ?_
 refine o_cy X0 hx hby q43_5 89 ((tlt (by decide)).1) ?_
 refine o_iw X0 hx hby q43_89 ?_
 exact o_rI X0 hx hby hrt hlk q43_91 (by rw [e0]; exact ⟨rfl, N0, rfl⟩)
def Q96 (Z : State) (aN : Addr) (pM : Int32) (pB pD : Int64) (kN : ClassId) (n1 n2 n3 : Int32) (h0 : Heap) (n0 : Nat) (v : Option Value) (h : Heap) (L : List Loc) : Prop := v = some (.int 0) ∧ Fr n0 L ∧ h = h0
set_option maxRecDepth 65536 in
set_option maxHeartbeats 40000000 in
theorem rm96 (l Z a0) (hw : oW a0 Z) (ws) (aN : Addr) (pM : Int32) (pB pD : Int64) (kN : ClassId) (n1 n2 n3 : Int32) (h0 : Heap) (n0 : Nat) (Z0 : n0 ≤ h0.size) (P0 : Arv Z h0 aN kN .int (4 : Int32) [(.int 0), (.int n1), (.int n2), (.int n3)] (.int 0)) (P1 : 0 ≤ n1.toInt ∧ n1.toInt ≤ 7) (P2 : 0 ≤ n2.toInt ∧ n2.toInt ≤ 7) (P3 : 0 ≤ n3.toInt ∧ n3.toInt ≤ 7) (P4 : 0 ≤ pM.toInt ∧ pM.toInt ≤ 7) (P5 : 0 ≤ pB.toInt) (P6 : ¬ (1 ≤ pM.toInt ∧ n1.toInt ≤ pB.toInt ∧ n1.toInt + 128 ≤ pD.toInt)) :
   own_Met l own_y24 kc43 8 (some .int) ws own_r5 #[(.int 1), (.ref aN), (.int pM), (.long pB), (.long pD)] Z h0 (Q96 Z aN pM pB pD kN n1 n2 n3 h0 n0) := by
 refine own_bd #[vI 1, vR aN, vI pM, vJ pB, .second, vJ pD, .second, .unset] (plainFor_of_name pn_9) fun p e s m below meth c s₁ hx hby hml hrt hlk hZ hown hnm X0 e0 => ?_
 have N0 := Fr.nil n0
 refine o_ic X0 hx hby 0 q43_0 ?_
 refine o_isw X0 hx hby q43_1 #[vI 1, vR aN, vI pM, vJ pB, .second, vJ pD, .second, vI 0] ?_
 refine o_il X0 hx hby q43_3 ?_
 refine o_ic X0 hx hby 1 q43_4 ?_
 refine o_cn X0 hx hby q43_5 ((flt (by decide)).1) ?_
 refine o_ic X0 hx hby 1 q43_8 ?_
 refine o_al X0 hx hby q43_9 ?_
 refine o_il X0 hx hby q43_10 ?_
 refine o_ia (z := n1) X0 hx hZ hby e0 (P0) q43_11 ⟨by decide, by decide⟩ ?_
 refine o_i2l X0 hx hby q43_12 ?_
 refine o_il X0 hx hby q43_13 ?_
 refine o_ll X0 hx hby q43_14 ?_
 refine o_lw X0 hx hby q43_15 ?_
 have := c_i2l n1
 have : (1 : Int32).toInt = 1 := (by decide)
 refine o_cS X0 hx hZ hown hw hml hby (rm94 l Z a0 hw [] (1 : Int32) (n1.toInt64) pM pB pD  h0 n0 Z0 (show 0 ≤ (n1.toInt64).toInt ∧ (n1.toInt64).toInt ≤ 21 from by omega) (show 1 ≤ (1 : Int32).toInt ∧ (1 : Int32).toInt ≤ 3 from by omega) (show ¬ ((1 : Int32).toInt ≤ pM.toInt ∧ (n1.toInt64).toInt ≤ pB.toInt ∧ (n1.toInt64).toInt + (128 * (1 : Int32).toInt) ≤ pD.toInt) from by omega)) e0 259 260 118 261 0 q43_17 [(.int 1), (.long (n1.toInt64)), (.int pM), (.long pB), (.long pD)] [] pd_28 hy_11 fun v2 T2 L2 hQ2 X2 => ?_
 obtain ⟨rfl, Nq2, eq2⟩ := hQ2
 have N2 := Fr.app N0 Nq2
 refine oV ?_
 refine o_iy X2 hx hby q43_20 89 ((if0 _ _).trans (teq rfl).1) ?_
 refine o_iw X2 hx hby q43_89 ?_
 exact o_rI X2 hx hby hrt hlk q43_91 (by rw [eq2]; exact ⟨rfl, N2, rfl⟩)
def Q97 (Z : State) (aN : Addr) (pM : Int32) (pB pD : Int64) (kN : ClassId) (n1 n2 n3 : Int32) (h0 : Heap) (n0 : Nat) (v : Option Value) (h : Heap) (L : List Loc) : Prop := v = some (.int 1) ∧ Fr n0 L ∧ h = h0
set_option maxRecDepth 65536 in
set_option maxHeartbeats 40000000 in
theorem rm97 (l Z a0) (hw : oW a0 Z) (ws) (aN : Addr) (pM : Int32) (pB pD : Int64) (kN : ClassId) (n1 n2 n3 : Int32) (h0 : Heap) (n0 : Nat) (Z0 : n0 ≤ h0.size) (P0 : Arv Z h0 aN kN .int (4 : Int32) [(.int 0), (.int n1), (.int n2), (.int n3)] (.int 0)) (P1 : 0 ≤ n1.toInt ∧ n1.toInt ≤ 7) (P2 : 0 ≤ n2.toInt ∧ n2.toInt ≤ 7) (P3 : 0 ≤ n3.toInt ∧ n3.toInt ≤ 7) (P4 : 0 ≤ pM.toInt ∧ pM.toInt ≤ 7) (P5 : 0 ≤ pB.toInt) (P6 : (1 ≤ pM.toInt ∧ n1.toInt ≤ pB.toInt ∧ n1.toInt + 128 ≤ pD.toInt)) :
   own_Met l own_y24 kc43 8 (some .int) ws own_r5 #[(.int 1), (.ref aN), (.int pM), (.long pB), (.long pD)] Z h0 (Q97 Z aN pM pB pD kN n1 n2 n3 h0 n0) := by
 refine own_bd #[vI 1, vR aN, vI pM, vJ pB, .second, vJ pD, .second, .unset] (plainFor_of_name pn_9) fun p e s m below meth c s₁ hx hby hml hrt hlk hZ hown hnm X0 e0 => ?_
 have N0 := Fr.nil n0
 refine o_ic X0 hx hby 0 q43_0 ?_
 refine o_isw X0 hx hby q43_1 #[vI 1, vR aN, vI pM, vJ pB, .second, vJ pD, .second, vI 0] ?_
 refine o_il X0 hx hby q43_3 ?_
 refine o_ic X0 hx hby 1 q43_4 ?_
 refine o_cn X0 hx hby q43_5 ((flt (by decide)).1) ?_
 refine o_ic X0 hx hby 1 q43_8 ?_
 refine o_al X0 hx hby q43_9 ?_
 refine o_il X0 hx hby q43_10 ?_
 refine o_ia (z := n1) X0 hx hZ hby e0 (P0) q43_11 ⟨by decide, by decide⟩ ?_
 refine o_i2l X0 hx hby q43_12 ?_
 refine o_il X0 hx hby q43_13 ?_
 refine o_ll X0 hx hby q43_14 ?_
 refine o_lw X0 hx hby q43_15 ?_
 have := c_i2l n1
 have : (1 : Int32).toInt = 1 := (by decide)
 refine o_cS X0 hx hZ hown hw hml hby (rm93 l Z a0 hw [] (1 : Int32) (n1.toInt64) pM pB pD  h0 n0 Z0 (show 0 ≤ (n1.toInt64).toInt ∧ (n1.toInt64).toInt ≤ 21 from by omega) (show 1 ≤ (1 : Int32).toInt ∧ (1 : Int32).toInt ≤ 3 from by omega) (show ((1 : Int32).toInt ≤ pM.toInt ∧ (n1.toInt64).toInt ≤ pB.toInt ∧ (n1.toInt64).toInt + (128 * (1 : Int32).toInt) ≤ pD.toInt) from by omega)) e0 259 260 118 261 0 q43_17 [(.int 1), (.long (n1.toInt64)), (.int pM), (.long pB), (.long pD)] [] pd_28 hy_11 fun v2 T2 L2 hQ2 X2 => ?_
 obtain ⟨rfl, Nq2, eq2⟩ := hQ2
 have N2 := Fr.app N0 Nq2
 refine oV ?_
 refine o_in X2 hx hby q43_20 ((if0 _ _).trans (feq (by decide)).1) ?_
 refine o_ic X2 hx hby 1 q43_23 ?_
 refine o_isw X2 hx hby q43_24 #[vI 1, vR aN, vI pM, vJ pB, .second, vJ pD, .second, vI 1] ?_
 refine o_il X2 hx hby q43_26 ?_
 refine o_ic X2 hx hby 2 q43_27 ?_
 refine o_cy X2 hx hby q43_28 89 ((tlt (by decide)).1) ?_
 refine o_iw X2 hx hby q43_89 ?_
 exact o_rI X2 hx hby hrt hlk q43_91 (by rw [eq2]; exact ⟨rfl, N2, rfl⟩)
def Q98 (Z : State) (aN : Addr) (pM : Int32) (pB pD : Int64) (kN : ClassId) (n1 n2 n3 : Int32) (h0 : Heap) (n0 : Nat) (v : Option Value) (h : Heap) (L : List Loc) : Prop := v = some (.int 0) ∧ Fr n0 L ∧ h = h0
set_option maxRecDepth 65536 in
set_option maxHeartbeats 40000000 in
theorem rm98 (l Z a0) (hw : oW a0 Z) (ws) (aN : Addr) (pM : Int32) (pB pD : Int64) (kN : ClassId) (n1 n2 n3 : Int32) (h0 : Heap) (n0 : Nat) (Z0 : n0 ≤ h0.size) (P0 : Arv Z h0 aN kN .int (4 : Int32) [(.int 0), (.int n1), (.int n2), (.int n3)] (.int 0)) (P1 : 0 ≤ n1.toInt ∧ n1.toInt ≤ 7) (P2 : 0 ≤ n2.toInt ∧ n2.toInt ≤ 7) (P3 : 0 ≤ n3.toInt ∧ n3.toInt ≤ 7) (P4 : 0 ≤ pM.toInt ∧ pM.toInt ≤ 7) (P5 : 0 ≤ pB.toInt) (P6 : ¬ (1 ≤ pM.toInt ∧ n2.toInt ≤ pB.toInt ∧ n2.toInt + 128 ≤ pD.toInt)) :
   own_Met l own_y24 kc43 8 (some .int) ws own_r5 #[(.int 2), (.ref aN), (.int pM), (.long pB), (.long pD)] Z h0 (Q98 Z aN pM pB pD kN n1 n2 n3 h0 n0) := by
 refine own_bd #[vI 2, vR aN, vI pM, vJ pB, .second, vJ pD, .second, .unset] (plainFor_of_name pn_9) fun p e s m below meth c s₁ hx hby hml hrt hlk hZ hown hnm X0 e0 => ?_
 have N0 := Fr.nil n0
 refine o_ic X0 hx hby 0 q43_0 ?_
 refine o_isw X0 hx hby q43_1 #[vI 2, vR aN, vI pM, vJ pB, .second, vJ pD, .second, vI 0] ?_
 refine o_il X0 hx hby q43_3 ?_
 refine o_ic X0 hx hby 1 q43_4 ?_
 refine o_cn X0 hx hby q43_5 ((flt (by decide)).1) ?_
 refine o_ic X0 hx hby 1 q43_8 ?_
 refine o_al X0 hx hby q43_9 ?_
 refine o_il X0 hx hby q43_10 ?_
 refine o_ia (z := n2) X0 hx hZ hby e0 (P0) q43_11 ⟨by decide, by decide⟩ ?_
 refine o_i2l X0 hx hby q43_12 ?_
 refine o_il X0 hx hby q43_13 ?_
 refine o_ll X0 hx hby q43_14 ?_
 refine o_lw X0 hx hby q43_15 ?_
 have := c_i2l n2
 have : (1 : Int32).toInt = 1 := (by decide)
 refine o_cS X0 hx hZ hown hw hml hby (rm94 l Z a0 hw [] (1 : Int32) (n2.toInt64) pM pB pD  h0 n0 Z0 (show 0 ≤ (n2.toInt64).toInt ∧ (n2.toInt64).toInt ≤ 21 from by omega) (show 1 ≤ (1 : Int32).toInt ∧ (1 : Int32).toInt ≤ 3 from by omega) (show ¬ ((1 : Int32).toInt ≤ pM.toInt ∧ (n2.toInt64).toInt ≤ pB.toInt ∧ (n2.toInt64).toInt + (128 * (1 : Int32).toInt) ≤ pD.toInt) from by omega)) e0 259 260 118 261 0 q43_17 [(.int 1), (.long (n2.toInt64)), (.int pM), (.long pB), (.long pD)] [] pd_28 hy_11 fun v2 T2 L2 hQ2 X2 => ?_
 obtain ⟨rfl, Nq2, eq2⟩ := hQ2
 have N2 := Fr.app N0 Nq2
 refine oV ?_
 refine o_iy X2 hx hby q43_20 89 ((if0 _ _).trans (teq rfl).1) ?_
 refine o_iw X2 hx hby q43_89 ?_
 exact o_rI X2 hx hby hrt hlk q43_91 (by rw [eq2]; exact ⟨rfl, N2, rfl⟩)
def Q99 (Z : State) (aN : Addr) (pM : Int32) (pB pD : Int64) (kN : ClassId) (n1 n2 n3 : Int32) (h0 : Heap) (n0 : Nat) (v : Option Value) (h : Heap) (L : List Loc) : Prop := v = some (.int 1) ∧ Fr n0 L ∧ h = h0
set_option maxRecDepth 65536 in
set_option maxHeartbeats 40000000 in
theorem rm99 (l Z a0) (hw : oW a0 Z) (ws) (aN : Addr) (pM : Int32) (pB pD : Int64) (kN : ClassId) (n1 n2 n3 : Int32) (h0 : Heap) (n0 : Nat) (Z0 : n0 ≤ h0.size) (P0 : Arv Z h0 aN kN .int (4 : Int32) [(.int 0), (.int n1), (.int n2), (.int n3)] (.int 0)) (P1 : 0 ≤ n1.toInt ∧ n1.toInt ≤ 7) (P2 : 0 ≤ n2.toInt ∧ n2.toInt ≤ 7) (P3 : 0 ≤ n3.toInt ∧ n3.toInt ≤ 7) (P4 : 0 ≤ pM.toInt ∧ pM.toInt ≤ 7) (P5 : 0 ≤ pB.toInt) (P6 : (1 ≤ pM.toInt ∧ n2.toInt ≤ pB.toInt ∧ n2.toInt + 128 ≤ pD.toInt)) (P7 : ¬ (2 ≤ pM.toInt ∧ n1.toInt + n2.toInt ≤ pB.toInt ∧ n1.toInt + n2.toInt + 256 ≤ pD.toInt)) :
   own_Met l own_y24 kc43 8 (some .int) ws own_r5 #[(.int 2), (.ref aN), (.int pM), (.long pB), (.long pD)] Z h0 (Q99 Z aN pM pB pD kN n1 n2 n3 h0 n0) := by
 refine own_bd #[vI 2, vR aN, vI pM, vJ pB, .second, vJ pD, .second, .unset] (plainFor_of_name pn_9) fun p e s m below meth c s₁ hx hby hml hrt hlk hZ hown hnm X0 e0 => ?_
 have N0 := Fr.nil n0
 refine o_ic X0 hx hby 0 q43_0 ?_
 refine o_isw X0 hx hby q43_1 #[vI 2, vR aN, vI pM, vJ pB, .second, vJ pD, .second, vI 0] ?_
 refine o_il X0 hx hby q43_3 ?_
 refine o_ic X0 hx hby 1 q43_4 ?_
 refine o_cn X0 hx hby q43_5 ((flt (by decide)).1) ?_
 refine o_ic X0 hx hby 1 q43_8 ?_
 refine o_al X0 hx hby q43_9 ?_
 refine o_il X0 hx hby q43_10 ?_
 refine o_ia (z := n2) X0 hx hZ hby e0 (P0) q43_11 ⟨by decide, by decide⟩ ?_
 refine o_i2l X0 hx hby q43_12 ?_
 refine o_il X0 hx hby q43_13 ?_
 refine o_ll X0 hx hby q43_14 ?_
 refine o_lw X0 hx hby q43_15 ?_
 have := c_i2l n2
 have : (1 : Int32).toInt = 1 := (by decide)
 refine o_cS X0 hx hZ hown hw hml hby (rm93 l Z a0 hw [] (1 : Int32) (n2.toInt64) pM pB pD  h0 n0 Z0 (show 0 ≤ (n2.toInt64).toInt ∧ (n2.toInt64).toInt ≤ 21 from by omega) (show 1 ≤ (1 : Int32).toInt ∧ (1 : Int32).toInt ≤ 3 from by omega) (show ((1 : Int32).toInt ≤ pM.toInt ∧ (n2.toInt64).toInt ≤ pB.toInt ∧ (n2.toInt64).toInt + (128 * (1 : Int32).toInt) ≤ pD.toInt) from by omega)) e0 259 260 118 261 0 q43_17 [(.int 1), (.long (n2.toInt64)), (.int pM), (.long pB), (.long pD)] [] pd_28 hy_11 fun v2 T2 L2 hQ2 X2 => ?_
 obtain ⟨rfl, Nq2, eq2⟩ := hQ2
 have N2 := Fr.app N0 Nq2
 refine oV ?_
 refine o_in X2 hx hby q43_20 ((if0 _ _).trans (feq (by decide)).1) ?_
 refine o_ic X2 hx hby 1 q43_23 ?_
 refine o_isw X2 hx hby q43_24 #[vI 2, vR aN, vI pM, vJ pB, .second, vJ pD, .second, vI 1] ?_
 refine o_il X2 hx hby q43_26 ?_
 refine o_ic X2 hx hby 2 q43_27 ?_
 refine o_cn X2 hx hby q43_28 ((flt (by decide)).1) ?_
 refine o_ic X2 hx hby 2 q43_31 ?_
 refine o_al X2 hx hby q43_32 ?_
 refine o_il X2 hx hby q43_33 ?_
 refine o_ia (z := n2) X2 hx hZ hby eq2 (P0) q43_34 ⟨by decide, by decide⟩ ?_
 refine o_i2l X2 hx hby q43_35 ?_
 refine o_al X2 hx hby q43_36 ?_
 refine o_il X2 hx hby q43_37 ?_
 refine o_ic X2 hx hby 1 q43_38 ?_
 refine o_isub X2 hx hby q43_39 ?_
 rw [show (((2 : Int32) - (1 : Int32)) : Int32) = (1 : Int32) from by decide]
 refine o_ia (z := n1) X2 hx hZ hby eq2 (P0) q43_40 ⟨by decide, by decide⟩ ?_
 refine o_i2l X2 hx hby q43_41 ?_
 refine o_ladd X2 hx hby q43_42 ?_
 refine o_il X2 hx hby q43_43 ?_
 refine o_ll X2 hx hby q43_44 ?_
 refine o_lw X2 hx hby q43_45 ?_
 have := c_i2l n1
 have := And.intro (c_ladd (n2).toInt64 (n1).toInt64) (rng64 ((n2).toInt64 + (n1).toInt64))
 have : (2 : Int32).toInt = 2 := (by decide)
 refine o_cS X2 hx hZ hown hw hml hby (rm94 l Z a0 hw [] (2 : Int32) ((n2.toInt64) + (n1.toInt64)) pM pB pD  h0 n0 Z0 (show 0 ≤ ((n2.toInt64) + (n1.toInt64)).toInt ∧ ((n2.toInt64) + (n1.toInt64)).toInt ≤ 21 from by omega) (show 1 ≤ (2 : Int32).toInt ∧ (2 : Int32).toInt ≤ 3 from by omega) (show ¬ ((2 : Int32).toInt ≤ pM.toInt ∧ ((n2.toInt64) + (n1.toInt64)).toInt ≤ pB.toInt ∧ ((n2.toInt64) + (n1.toInt64)).toInt + (128 * (2 : Int32).toInt) ≤ pD.toInt) from by omega)) eq2 259 260 118 261 0 q43_47 [(.int 2), (.long ((n2.toInt64) + (n1.toInt64))), (.int pM), (.long pB), (.long pD)] [] pd_28 hy_11 fun v5 T5 L5 hQ5 X5 => ?_
 obtain ⟨rfl, Nq5, eq5⟩ := hQ5
 have N5 := Fr.app N2 Nq5
 refine oV ?_
 refine o_iy X5 hx hby q43_50 89 ((if0 _ _).trans (teq rfl).1) ?_
 refine o_iw X5 hx hby q43_89 ?_
 exact o_rI X5 hx hby hrt hlk q43_91 (by rw [eq5]; exact ⟨rfl, N5, rfl⟩)
def Q100 (Z : State) (aN : Addr) (pM : Int32) (pB pD : Int64) (kN : ClassId) (n1 n2 n3 : Int32) (h0 : Heap) (n0 : Nat) (v : Option Value) (h : Heap) (L : List Loc) : Prop := v = some (.int 2) ∧ Fr n0 L ∧ h = h0
set_option maxRecDepth 65536 in
set_option maxHeartbeats 40000000 in
theorem rm100 (l Z a0) (hw : oW a0 Z) (ws) (aN : Addr) (pM : Int32) (pB pD : Int64) (kN : ClassId) (n1 n2 n3 : Int32) (h0 : Heap) (n0 : Nat) (Z0 : n0 ≤ h0.size) (P0 : Arv Z h0 aN kN .int (4 : Int32) [(.int 0), (.int n1), (.int n2), (.int n3)] (.int 0)) (P1 : 0 ≤ n1.toInt ∧ n1.toInt ≤ 7) (P2 : 0 ≤ n2.toInt ∧ n2.toInt ≤ 7) (P3 : 0 ≤ n3.toInt ∧ n3.toInt ≤ 7) (P4 : 0 ≤ pM.toInt ∧ pM.toInt ≤ 7) (P5 : 0 ≤ pB.toInt) (P6 : (2 ≤ pM.toInt ∧ n1.toInt + n2.toInt ≤ pB.toInt ∧ n1.toInt + n2.toInt + 256 ≤ pD.toInt)) :
   own_Met l own_y24 kc43 8 (some .int) ws own_r5 #[(.int 2), (.ref aN), (.int pM), (.long pB), (.long pD)] Z h0 (Q100 Z aN pM pB pD kN n1 n2 n3 h0 n0) := by
 refine own_bd #[vI 2, vR aN, vI pM, vJ pB, .second, vJ pD, .second, .unset] (plainFor_of_name pn_9) fun p e s m below meth c s₁ hx hby hml hrt hlk hZ hown hnm X0 e0 => ?_
 have N0 := Fr.nil n0
 refine o_ic X0 hx hby 0 q43_0 ?_
 refine o_isw X0 hx hby q43_1 #[vI 2, vR aN, vI pM, vJ pB, .second, vJ pD, .second, vI 0] ?_
 refine o_il X0 hx hby q43_3 ?_
 refine o_ic X0 hx hby 1 q43_4 ?_
 refine o_cn X0 hx hby q43_5 ((flt (by decide)).1) ?_
 refine o_ic X0 hx hby 1 q43_8 ?_
 refine o_al X0 hx hby q43_9 ?_
 refine o_il X0 hx hby q43_10 ?_
 refine o_ia (z := n2) X0 hx hZ hby e0 (P0) q43_11 ⟨by decide, by decide⟩ ?_
 refine o_i2l X0 hx hby q43_12 ?_
 refine o_il X0 hx hby q43_13 ?_
 refine o_ll X0 hx hby q43_14 ?_
 refine o_lw X0 hx hby q43_15 ?_
 have := c_i2l n2
 have : (1 : Int32).toInt = 1 := (by decide)
 refine o_cS X0 hx hZ hown hw hml hby (rm93 l Z a0 hw [] (1 : Int32) (n2.toInt64) pM pB pD  h0 n0 Z0 (show 0 ≤ (n2.toInt64).toInt ∧ (n2.toInt64).toInt ≤ 21 from by omega) (show 1 ≤ (1 : Int32).toInt ∧ (1 : Int32).toInt ≤ 3 from by omega) (show ((1 : Int32).toInt ≤ pM.toInt ∧ (n2.toInt64).toInt ≤ pB.toInt ∧ (n2.toInt64).toInt + (128 * (1 : Int32).toInt) ≤ pD.toInt) from by omega)) e0 259 260 118 261 0 q43_17 [(.int 1), (.long (n2.toInt64)), (.int pM), (.long pB), (.long pD)] [] pd_28 hy_11 fun v2 T2 L2 hQ2 X2 => ?_
 obtain ⟨rfl, Nq2, eq2⟩ := hQ2
 have N2 := Fr.app N0 Nq2
 refine oV ?_
 refine o_in X2 hx hby q43_20 ((if0 _ _).trans (feq (by decide)).1) ?_
 refine o_ic X2 hx hby 1 q43_23 ?_
 refine o_isw X2 hx hby q43_24 #[vI 2, vR aN, vI pM, vJ pB, .second, vJ pD, .second, vI 1] ?_
 refine o_il X2 hx hby q43_26 ?_
 refine o_ic X2 hx hby 2 q43_27 ?_
 refine o_cn X2 hx hby q43_28 ((flt (by decide)).1) ?_
 refine o_ic X2 hx hby 2 q43_31 ?_
 refine o_al X2 hx hby q43_32 ?_
 refine o_il X2 hx hby q43_33 ?_
 refine o_ia (z := n2) X2 hx hZ hby eq2 (P0) q43_34 ⟨by decide, by decide⟩ ?_
 refine o_i2l X2 hx hby q43_35 ?_
 refine o_al X2 hx hby q43_36 ?_
 refine o_il X2 hx hby q43_37 ?_
 refine o_ic X2 hx hby 1 q43_38 ?_
 refine o_isub X2 hx hby q43_39 ?_
 rw [show (((2 : Int32) - (1 : Int32)) : Int32) = (1 : Int32) from by decide]
 refine o_ia (z := n1) X2 hx hZ hby eq2 (P0) q43_40 ⟨by decide, by decide⟩ ?_
 refine o_i2l X2 hx hby q43_41 ?_
 refine o_ladd X2 hx hby q43_42 ?_
 refine o_il X2 hx hby q43_43 ?_
 refine o_ll X2 hx hby q43_44 ?_
 refine o_lw X2 hx hby q43_45 ?_
 have := c_i2l n1
 have := And.intro (c_ladd (n2).toInt64 (n1).toInt64) (rng64 ((n2).toInt64 + (n1).toInt64))
 have : (2 : Int32).toInt = 2 := (by decide)
 refine o_cS X2 hx hZ hown hw hml hby (rm93 l Z a0 hw [] (2 : Int32) ((n2.toInt64) + (n1.toInt64)) pM pB pD  h0 n0 Z0 (show 0 ≤ ((n2.toInt64) + (n1.toInt64)).toInt ∧ ((n2.toInt64) + (n1.toInt64)).toInt ≤ 21 from by omega) (show 1 ≤ (2 : Int32).toInt ∧ (2 : Int32).toInt ≤ 3 from by omega) (show ((2 : Int32).toInt ≤ pM.toInt ∧ ((n2.toInt64) + (n1.toInt64)).toInt ≤ pB.toInt ∧ ((n2.toInt64) + (n1.toInt64)).toInt + (128 * (2 : Int32).toInt) ≤ pD.toInt) from by omega)) eq2 259 260 118 261 0 q43_47 [(.int 2), (.long ((n2.toInt64) + (n1.toInt64))), (.int pM), (.long pB), (.long pD)] [] pd_28 hy_11 fun v5 T5 L5 hQ5 X5 => ?_
 obtain ⟨rfl, Nq5, eq5⟩ := hQ5
 have N5 := Fr.app N2 Nq5
 refine oV ?_
 refine o_in X5 hx hby q43_50 ((if0 _ _).trans (feq (by decide)).1) ?_
 refine o_ic X5 hx hby 2 q43_53 ?_
 refine o_isw X5 hx hby q43_54 #[vI 2, vR aN, vI pM, vJ pB, .second, vJ pD, .second, vI 2] ?_
 refine o_il X5 hx hby q43_56 ?_
 refine o_ic X5 hx hby 3 q43_57 ?_
 refine o_cy X5 hx hby q43_58 89 ((tlt (by decide)).1) ?_
 refine o_iw X5 hx hby q43_89 ?_
 exact o_rI X5 hx hby hrt hlk q43_91 (by rw [eq5]; exact ⟨rfl, N5, rfl⟩)
def Q101 (Z : State) (aN : Addr) (pM : Int32) (pB pD : Int64) (kN : ClassId) (n1 n2 n3 : Int32) (h0 : Heap) (n0 : Nat) (v : Option Value) (h : Heap) (L : List Loc) : Prop := v = some (.int 0) ∧ Fr n0 L ∧ h = h0
set_option maxRecDepth 65536 in
set_option maxHeartbeats 40000000 in
theorem rm101 (l Z a0) (hw : oW a0 Z) (ws) (aN : Addr) (pM : Int32) (pB pD : Int64) (kN : ClassId) (n1 n2 n3 : Int32) (h0 : Heap) (n0 : Nat) (Z0 : n0 ≤ h0.size) (P0 : Arv Z h0 aN kN .int (4 : Int32) [(.int 0), (.int n1), (.int n2), (.int n3)] (.int 0)) (P1 : 0 ≤ n1.toInt ∧ n1.toInt ≤ 7) (P2 : 0 ≤ n2.toInt ∧ n2.toInt ≤ 7) (P3 : 0 ≤ n3.toInt ∧ n3.toInt ≤ 7) (P4 : 0 ≤ pM.toInt ∧ pM.toInt ≤ 7) (P5 : 0 ≤ pB.toInt) (P6 : ¬ (1 ≤ pM.toInt ∧ n3.toInt ≤ pB.toInt ∧ n3.toInt + 128 ≤ pD.toInt)) :
   own_Met l own_y24 kc43 8 (some .int) ws own_r5 #[(.int 3), (.ref aN), (.int pM), (.long pB), (.long pD)] Z h0 (Q101 Z aN pM pB pD kN n1 n2 n3 h0 n0) := by
 refine own_bd #[vI 3, vR aN, vI pM, vJ pB, .second, vJ pD, .second, .unset] (plainFor_of_name pn_9) fun p e s m below meth c s₁ hx hby hml hrt hlk hZ hown hnm X0 e0 => ?_
 have N0 := Fr.nil n0
 refine o_ic X0 hx hby 0 q43_0 ?_
 refine o_isw X0 hx hby q43_1 #[vI 3, vR aN, vI pM, vJ pB, .second, vJ pD, .second, vI 0] ?_
 refine o_il X0 hx hby q43_3 ?_
 refine o_ic X0 hx hby 1 q43_4 ?_
 refine o_cn X0 hx hby q43_5 ((flt (by decide)).1) ?_
 refine o_ic X0 hx hby 1 q43_8 ?_
 refine o_al X0 hx hby q43_9 ?_
 refine o_il X0 hx hby q43_10 ?_
 refine o_ia (z := n3) X0 hx hZ hby e0 (P0) q43_11 ⟨by decide, by decide⟩ ?_
 refine o_i2l X0 hx hby q43_12 ?_
 refine o_il X0 hx hby q43_13 ?_
 refine o_ll X0 hx hby q43_14 ?_
 refine o_lw X0 hx hby q43_15 ?_
 have := c_i2l n3
 have : (1 : Int32).toInt = 1 := (by decide)
 refine o_cS X0 hx hZ hown hw hml hby (rm94 l Z a0 hw [] (1 : Int32) (n3.toInt64) pM pB pD  h0 n0 Z0 (show 0 ≤ (n3.toInt64).toInt ∧ (n3.toInt64).toInt ≤ 21 from by omega) (show 1 ≤ (1 : Int32).toInt ∧ (1 : Int32).toInt ≤ 3 from by omega) (show ¬ ((1 : Int32).toInt ≤ pM.toInt ∧ (n3.toInt64).toInt ≤ pB.toInt ∧ (n3.toInt64).toInt + (128 * (1 : Int32).toInt) ≤ pD.toInt) from by omega)) e0 259 260 118 261 0 q43_17 [(.int 1), (.long (n3.toInt64)), (.int pM), (.long pB), (.long pD)] [] pd_28 hy_11 fun v2 T2 L2 hQ2 X2 => ?_
 obtain ⟨rfl, Nq2, eq2⟩ := hQ2
 have N2 := Fr.app N0 Nq2
 refine oV ?_
 refine o_iy X2 hx hby q43_20 89 ((if0 _ _).trans (teq rfl).1) ?_
 refine o_iw X2 hx hby q43_89 ?_
 exact o_rI X2 hx hby hrt hlk q43_91 (by rw [eq2]; exact ⟨rfl, N2, rfl⟩)
def Q102 (Z : State) (aN : Addr) (pM : Int32) (pB pD : Int64) (kN : ClassId) (n1 n2 n3 : Int32) (h0 : Heap) (n0 : Nat) (v : Option Value) (h : Heap) (L : List Loc) : Prop := v = some (.int 1) ∧ Fr n0 L ∧ h = h0
set_option maxRecDepth 65536 in
set_option maxHeartbeats 40000000 in
theorem rm102 (l Z a0) (hw : oW a0 Z) (ws) (aN : Addr) (pM : Int32) (pB pD : Int64) (kN : ClassId) (n1 n2 n3 : Int32) (h0 : Heap) (n0 : Nat) (Z0 : n0 ≤ h0.size) (P0 : Arv Z h0 aN kN .int (4 : Int32) [(.int 0), (.int n1), (.int n2), (.int n3)] (.int 0)) (P1 : 0 ≤ n1.toInt ∧ n1.toInt ≤ 7) (P2 : 0 ≤ n2.toInt ∧ n2.toInt ≤ 7) (P3 : 0 ≤ n3.toInt ∧ n3.toInt ≤ 7) (P4 : 0 ≤ pM.toInt ∧ pM.toInt ≤ 7) (P5 : 0 ≤ pB.toInt) (P6 : (1 ≤ pM.toInt ∧ n3.toInt ≤ pB.toInt ∧ n3.toInt + 128 ≤ pD.toInt)) (P7 : ¬ (2 ≤ pM.toInt ∧ n2.toInt + n3.toInt ≤ pB.toInt ∧ n2.toInt + n3.toInt + 256 ≤ pD.toInt)) :
   own_Met l own_y24 kc43 8 (some .int) ws own_r5 #[(.int 3), (.ref aN), (.int pM), (.long pB), (.long pD)] Z h0 (Q102 Z aN pM pB pD kN n1 n2 n3 h0 n0) := by
 refine own_bd #[vI 3, vR aN, vI pM, vJ pB, .second, vJ pD, .second, .unset] (plainFor_of_name pn_9) fun p e s m below meth c s₁ hx hby hml hrt hlk hZ hown hnm X0 e0 => ?_
 have N0 := Fr.nil n0
 refine o_ic X0 hx hby 0 q43_0 ?_
 refine o_isw X0 hx hby q43_1 #[vI 3, vR aN, vI pM, vJ pB, .second, vJ pD, .second, vI 0] ?_
 refine o_il X0 hx hby q43_3 ?_
 refine o_ic X0 hx hby 1 q43_4 ?_
 refine o_cn X0 hx hby q43_5 ((flt (by decide)).1) ?_
 refine o_ic X0 hx hby 1 q43_8 ?_
 refine o_al X0 hx hby q43_9 ?_
 refine o_il X0 hx hby q43_10 ?_
 refine o_ia (z := n3) X0 hx hZ hby e0 (P0) q43_11 ⟨by decide, by decide⟩ ?_
 refine o_i2l X0 hx hby q43_12 ?_
 refine o_il X0 hx hby q43_13 ?_
 refine o_ll X0 hx hby q43_14 ?_
 refine o_lw X0 hx hby q43_15 ?_
 have := c_i2l n3
 have : (1 : Int32).toInt = 1 := (by decide)
 refine o_cS X0 hx hZ hown hw hml hby (rm93 l Z a0 hw [] (1 : Int32) (n3.toInt64) pM pB pD  h0 n0 Z0 (show 0 ≤ (n3.toInt64).toInt ∧ (n3.toInt64).toInt ≤ 21 from by omega) (show 1 ≤ (1 : Int32).toInt ∧ (1 : Int32).toInt ≤ 3 from by omega) (show ((1 : Int32).toInt ≤ pM.toInt ∧ (n3.toInt64).toInt ≤ pB.toInt ∧ (n3.toInt64).toInt + (128 * (1 : Int32).toInt) ≤ pD.toInt) from by omega)) e0 259 260 118 261 0 q43_17 [(.int 1), (.long (n3.toInt64)), (.int pM), (.long pB), (.long pD)] [] pd_28 hy_11 fun v2 T2 L2 hQ2 X2 => ?_
 obtain ⟨rfl, Nq2, eq2⟩ := hQ2
 have N2 := Fr.app N0 Nq2
 refine oV ?_
 refine o_in X2 hx hby q43_20 ((if0 _ _).trans (feq (by decide)).1) ?_
 refine o_ic X2 hx hby 1 q43_23 ?_
 refine o_isw X2 hx hby q43_24 #[vI 3, vR aN, vI pM, vJ pB, .second, vJ pD, .second, vI 1] ?_
 refine o_il X2 hx hby q43_26 ?_
 refine o_ic X2 hx hby 2 q43_27 ?_
 refine o_cn X2 hx hby q43_28 ((flt (by decide)).1) ?_
 refine o_ic X2 hx hby 2 q43_31 ?_
 refine o_al X2 hx hby q43_32 ?_
 refine o_il X2 hx hby q43_33 ?_
 refine o_ia (z := n3) X2 hx hZ hby eq2 (P0) q43_34 ⟨by decide, by decide⟩ ?_
 refine o_i2l X2 hx hby q43_35 ?_
 refine o_al X2 hx hby q43_36 ?_
 refine o_il X2 hx hby q43_37 ?_
 refine o_ic X2 hx hby 1 q43_38 ?_
 refine o_isub X2 hx hby q43_39 ?_
 rw [show (((3 : Int32) - (1 : Int32)) : Int32) = (2 : Int32) from by decide]
 refine o_ia (z := n2) X2 hx hZ hby eq2 (P0) q43_40 ⟨by decide, by decide⟩ ?_
 refine o_i2l X2 hx hby q43_41 ?_
 refine o_ladd X2 hx hby q43_42 ?_
 refine o_il X2 hx hby q43_43 ?_
 refine o_ll X2 hx hby q43_44 ?_
 refine o_lw X2 hx hby q43_45 ?_
 have := c_i2l n2
 have := And.intro (c_ladd (n3).toInt64 (n2).toInt64) (rng64 ((n3).toInt64 + (n2).toInt64))
 have : (2 : Int32).toInt = 2 := (by decide)
 refine o_cS X2 hx hZ hown hw hml hby (rm94 l Z a0 hw [] (2 : Int32) ((n3.toInt64) + (n2.toInt64)) pM pB pD  h0 n0 Z0 (show 0 ≤ ((n3.toInt64) + (n2.toInt64)).toInt ∧ ((n3.toInt64) + (n2.toInt64)).toInt ≤ 21 from by omega) (show 1 ≤ (2 : Int32).toInt ∧ (2 : Int32).toInt ≤ 3 from by omega) (show ¬ ((2 : Int32).toInt ≤ pM.toInt ∧ ((n3.toInt64) + (n2.toInt64)).toInt ≤ pB.toInt ∧ ((n3.toInt64) + (n2.toInt64)).toInt + (128 * (2 : Int32).toInt) ≤ pD.toInt) from by omega)) eq2 259 260 118 261 0 q43_47 [(.int 2), (.long ((n3.toInt64) + (n2.toInt64))), (.int pM), (.long pB), (.long pD)] [] pd_28 hy_11 fun v5 T5 L5 hQ5 X5 => ?_
 obtain ⟨rfl, Nq5, eq5⟩ := hQ5
 have N5 := Fr.app N2 Nq5
 refine oV ?_
 refine o_iy X5 hx hby q43_50 89 ((if0 _ _).trans (teq rfl).1) ?_
 refine o_iw X5 hx hby q43_89 ?_
 exact o_rI X5 hx hby hrt hlk q43_91 (by rw [eq5]; exact ⟨rfl, N5, rfl⟩)
def Q103 (Z : State) (aN : Addr) (pM : Int32) (pB pD : Int64) (kN : ClassId) (n1 n2 n3 : Int32) (h0 : Heap) (n0 : Nat) (v : Option Value) (h : Heap) (L : List Loc) : Prop := v = some (.int 2) ∧ Fr n0 L ∧ h = h0
set_option maxRecDepth 65536 in
set_option maxHeartbeats 40000000 in
theorem rm103 (l Z a0) (hw : oW a0 Z) (ws) (aN : Addr) (pM : Int32) (pB pD : Int64) (kN : ClassId) (n1 n2 n3 : Int32) (h0 : Heap) (n0 : Nat) (Z0 : n0 ≤ h0.size) (P0 : Arv Z h0 aN kN .int (4 : Int32) [(.int 0), (.int n1), (.int n2), (.int n3)] (.int 0)) (P1 : 0 ≤ n1.toInt ∧ n1.toInt ≤ 7) (P2 : 0 ≤ n2.toInt ∧ n2.toInt ≤ 7) (P3 : 0 ≤ n3.toInt ∧ n3.toInt ≤ 7) (P4 : 0 ≤ pM.toInt ∧ pM.toInt ≤ 7) (P5 : 0 ≤ pB.toInt) (P6 : (2 ≤ pM.toInt ∧ n2.toInt + n3.toInt ≤ pB.toInt ∧ n2.toInt + n3.toInt + 256 ≤ pD.toInt)) (P7 : ¬ (3 ≤ pM.toInt ∧ n1.toInt + n2.toInt + n3.toInt ≤ pB.toInt ∧ n1.toInt + n2.toInt + n3.toInt + 384 ≤ pD.toInt)) :
   own_Met l own_y24 kc43 8 (some .int) ws own_r5 #[(.int 3), (.ref aN), (.int pM), (.long pB), (.long pD)] Z h0 (Q103 Z aN pM pB pD kN n1 n2 n3 h0 n0) := by
 refine own_bd #[vI 3, vR aN, vI pM, vJ pB, .second, vJ pD, .second, .unset] (plainFor_of_name pn_9) fun p e s m below meth c s₁ hx hby hml hrt hlk hZ hown hnm X0 e0 => ?_
 have N0 := Fr.nil n0
 refine o_ic X0 hx hby 0 q43_0 ?_
 refine o_isw X0 hx hby q43_1 #[vI 3, vR aN, vI pM, vJ pB, .second, vJ pD, .second, vI 0] ?_
 refine o_il X0 hx hby q43_3 ?_
 refine o_ic X0 hx hby 1 q43_4 ?_
 refine o_cn X0 hx hby q43_5 ((flt (by decide)).1) ?_
 refine o_ic X0 hx hby 1 q43_8 ?_
 refine o_al X0 hx hby q43_9 ?_
 refine o_il X0 hx hby q43_10 ?_
 refine o_ia (z := n3) X0 hx hZ hby e0 (P0) q43_11 ⟨by decide, by decide⟩ ?_
 refine o_i2l X0 hx hby q43_12 ?_
 refine o_il X0 hx hby q43_13 ?_
 refine o_ll X0 hx hby q43_14 ?_
 refine o_lw X0 hx hby q43_15 ?_
 have := c_i2l n3
 have : (1 : Int32).toInt = 1 := (by decide)
 refine o_cS X0 hx hZ hown hw hml hby (rm93 l Z a0 hw [] (1 : Int32) (n3.toInt64) pM pB pD  h0 n0 Z0 (show 0 ≤ (n3.toInt64).toInt ∧ (n3.toInt64).toInt ≤ 21 from by omega) (show 1 ≤ (1 : Int32).toInt ∧ (1 : Int32).toInt ≤ 3 from by omega) (show ((1 : Int32).toInt ≤ pM.toInt ∧ (n3.toInt64).toInt ≤ pB.toInt ∧ (n3.toInt64).toInt + (128 * (1 : Int32).toInt) ≤ pD.toInt) from by omega)) e0 259 260 118 261 0 q43_17 [(.int 1), (.long (n3.toInt64)), (.int pM), (.long pB), (.long pD)] [] pd_28 hy_11 fun v2 T2 L2 hQ2 X2 => ?_
 obtain ⟨rfl, Nq2, eq2⟩ := hQ2
 have N2 := Fr.app N0 Nq2
 refine oV ?_
 refine o_in X2 hx hby q43_20 ((if0 _ _).trans (feq (by decide)).1) ?_
 refine o_ic X2 hx hby 1 q43_23 ?_
 refine o_isw X2 hx hby q43_24 #[vI 3, vR aN, vI pM, vJ pB, .second, vJ pD, .second, vI 1] ?_
 refine o_il X2 hx hby q43_26 ?_
 refine o_ic X2 hx hby 2 q43_27 ?_
 refine o_cn X2 hx hby q43_28 ((flt (by decide)).1) ?_
 refine o_ic X2 hx hby 2 q43_31 ?_
 refine o_al X2 hx hby q43_32 ?_
 refine o_il X2 hx hby q43_33 ?_
 refine o_ia (z := n3) X2 hx hZ hby eq2 (P0) q43_34 ⟨by decide, by decide⟩ ?_
 refine o_i2l X2 hx hby q43_35 ?_
 refine o_al X2 hx hby q43_36 ?_
 refine o_il X2 hx hby q43_37 ?_
 refine o_ic X2 hx hby 1 q43_38 ?_
 refine o_isub X2 hx hby q43_39 ?_
 rw [show (((3 : Int32) - (1 : Int32)) : Int32) = (2 : Int32) from by decide]
 refine o_ia (z := n2) X2 hx hZ hby eq2 (P0) q43_40 ⟨by decide, by decide⟩ ?_
 refine o_i2l X2 hx hby q43_41 ?_
 refine o_ladd X2 hx hby q43_42 ?_
 refine o_il X2 hx hby q43_43 ?_
 refine o_ll X2 hx hby q43_44 ?_
 refine o_lw X2 hx hby q43_45 ?_
 have := c_i2l n2
 have := And.intro (c_ladd (n3).toInt64 (n2).toInt64) (rng64 ((n3).toInt64 + (n2).toInt64))
 have : (2 : Int32).toInt = 2 := (by decide)
 refine o_cS X2 hx hZ hown hw hml hby (rm93 l Z a0 hw [] (2 : Int32) ((n3.toInt64) + (n2.toInt64)) pM pB pD  h0 n0 Z0 (show 0 ≤ ((n3.toInt64) + (n2.toInt64)).toInt ∧ ((n3.toInt64) + (n2.toInt64)).toInt ≤ 21 from by omega) (show 1 ≤ (2 : Int32).toInt ∧ (2 : Int32).toInt ≤ 3 from by omega) (show ((2 : Int32).toInt ≤ pM.toInt ∧ ((n3.toInt64) + (n2.toInt64)).toInt ≤ pB.toInt ∧ ((n3.toInt64) + (n2.toInt64)).toInt + (128 * (2 : Int32).toInt) ≤ pD.toInt) from by omega)) eq2 259 260 118 261 0 q43_47 [(.int 2), (.long ((n3.toInt64) + (n2.toInt64))), (.int pM), (.long pB), (.long pD)] [] pd_28 hy_11 fun v5 T5 L5 hQ5 X5 => ?_
 obtain ⟨rfl, Nq5, eq5⟩ := hQ5
 have N5 := Fr.app N2 Nq5
 refine oV ?_
 refine o_in X5 hx hby q43_50 ((if0 _ _).trans (feq (by decide)).1) ?_
 refine o_ic X5 hx hby 2 q43_53 ?_
 refine o_isw X5 hx hby q43_54 #[vI 3, vR aN, vI pM, vJ pB, .second, vJ pD, .second, vI 2] ?_
 refine o_il X5 hx hby q43_56 ?_
 refine o_ic X5 hx hby 3 q43_57 ?_
 refine o_cn X5 hx hby q43_58 ((flt (by decide)).1) ?_
 refine o_ic X5 hx hby 3 q43_61 ?_
 refine o_al X5 hx hby q43_62 ?_
 refine o_ic X5 hx hby 1 q43_63 ?_
 refine o_ia (z := n1) X5 hx hZ hby eq5 (P0) q43_64 ⟨by decide, by decide⟩ ?_
 refine o_i2l X5 hx hby q43_65 ?_
 refine o_al X5 hx hby q43_66 ?_
 refine o_ic X5 hx hby 2 q43_67 ?_
 refine o_ia (z := n2) X5 hx hZ hby eq5 (P0) q43_68 ⟨by decide, by decide⟩ ?_
 refine o_i2l X5 hx hby q43_69 ?_
 refine o_ladd X5 hx hby q43_70 ?_
 refine o_al X5 hx hby q43_71 ?_
 refine o_ic X5 hx hby 3 q43_72 ?_
 refine o_ia (z := n3) X5 hx hZ hby eq5 (P0) q43_73 ⟨by decide, by decide⟩ ?_
 refine o_i2l X5 hx hby q43_74 ?_
 refine o_ladd X5 hx hby q43_75 ?_
 refine o_il X5 hx hby q43_76 ?_
 refine o_ll X5 hx hby q43_77 ?_
 refine o_lw X5 hx hby q43_78 ?_
 have := c_i2l n1
 have := And.intro (c_ladd (n1).toInt64 (n2).toInt64) (rng64 ((n1).toInt64 + (n2).toInt64))
 have := And.intro (c_ladd ((n1).toInt64 + (n2).toInt64) (n3).toInt64) (rng64 (((n1).toInt64 + (n2).toInt64) + (n3).toInt64))
 have : (3 : Int32).toInt = 3 := (by decide)
 refine o_cS X5 hx hZ hown hw hml hby (rm94 l Z a0 hw [] (3 : Int32) (((n1.toInt64) + (n2.toInt64)) + (n3.toInt64)) pM pB pD  h0 n0 Z0 (show 0 ≤ (((n1.toInt64) + (n2.toInt64)) + (n3.toInt64)).toInt ∧ (((n1.toInt64) + (n2.toInt64)) + (n3.toInt64)).toInt ≤ 21 from by omega) (show 1 ≤ (3 : Int32).toInt ∧ (3 : Int32).toInt ≤ 3 from by omega) (show ¬ ((3 : Int32).toInt ≤ pM.toInt ∧ (((n1.toInt64) + (n2.toInt64)) + (n3.toInt64)).toInt ≤ pB.toInt ∧ (((n1.toInt64) + (n2.toInt64)) + (n3.toInt64)).toInt + (128 * (3 : Int32).toInt) ≤ pD.toInt) from by omega)) eq5 259 260 118 261 0 q43_80 [(.int 3), (.long (((n1.toInt64) + (n2.toInt64)) + (n3.toInt64))), (.int pM), (.long pB), (.long pD)] [] pd_28 hy_11 fun v9 T9 L9 hQ9 X9 => ?_
 obtain ⟨rfl, Nq9, eq9⟩ := hQ9
 have N9 := Fr.app N5 Nq9
 refine oV ?_
 refine o_iy X9 hx hby q43_83 89 ((if0 _ _).trans (teq rfl).1) ?_
 refine o_iw X9 hx hby q43_89 ?_
 exact o_rI X9 hx hby hrt hlk q43_91 (by rw [eq9]; exact ⟨rfl, N9, rfl⟩)
def Q104 (Z : State) (aN : Addr) (pM : Int32) (pB pD : Int64) (kN : ClassId) (n1 n2 n3 : Int32) (h0 : Heap) (n0 : Nat) (v : Option Value) (h : Heap) (L : List Loc) : Prop := v = some (.int 3) ∧ Fr n0 L ∧ h = h0
set_option maxRecDepth 65536 in
set_option maxHeartbeats 40000000 in
theorem rm104 (l Z a0) (hw : oW a0 Z) (ws) (aN : Addr) (pM : Int32) (pB pD : Int64) (kN : ClassId) (n1 n2 n3 : Int32) (h0 : Heap) (n0 : Nat) (Z0 : n0 ≤ h0.size) (P0 : Arv Z h0 aN kN .int (4 : Int32) [(.int 0), (.int n1), (.int n2), (.int n3)] (.int 0)) (P1 : 0 ≤ n1.toInt ∧ n1.toInt ≤ 7) (P2 : 0 ≤ n2.toInt ∧ n2.toInt ≤ 7) (P3 : 0 ≤ n3.toInt ∧ n3.toInt ≤ 7) (P4 : 0 ≤ pM.toInt ∧ pM.toInt ≤ 7) (P5 : 0 ≤ pB.toInt) (P6 : (3 ≤ pM.toInt ∧ n1.toInt + n2.toInt + n3.toInt ≤ pB.toInt ∧ n1.toInt + n2.toInt + n3.toInt + 384 ≤ pD.toInt)) :
   own_Met l own_y24 kc43 8 (some .int) ws own_r5 #[(.int 3), (.ref aN), (.int pM), (.long pB), (.long pD)] Z h0 (Q104 Z aN pM pB pD kN n1 n2 n3 h0 n0) := by
 refine own_bd #[vI 3, vR aN, vI pM, vJ pB, .second, vJ pD, .second, .unset] (plainFor_of_name pn_9) fun p e s m below meth c s₁ hx hby hml hrt hlk hZ hown hnm X0 e0 => ?_
 have N0 := Fr.nil n0
 refine o_ic X0 hx hby 0 q43_0 ?_
 refine o_isw X0 hx hby q43_1 #[vI 3, vR aN, vI pM, vJ pB, .second, vJ pD, .second, vI 0] ?_
 refine o_il X0 hx hby q43_3 ?_
 refine o_ic X0 hx hby 1 q43_4 ?_
 refine o_cn X0 hx hby q43_5 ((flt (by decide)).1) ?_
 refine o_ic X0 hx hby 1 q43_8 ?_
 refine o_al X0 hx hby q43_9 ?_
 refine o_il X0 hx hby q43_10 ?_
 refine o_ia (z := n3) X0 hx hZ hby e0 (P0) q43_11 ⟨by decide, by decide⟩ ?_
 refine o_i2l X0 hx hby q43_12 ?_
 refine o_il X0 hx hby q43_13 ?_
 refine o_ll X0 hx hby q43_14 ?_
 refine o_lw X0 hx hby q43_15 ?_
 have := c_i2l n3
 have : (1 : Int32).toInt = 1 := (by decide)
 refine o_cS X0 hx hZ hown hw hml hby (rm93 l Z a0 hw [] (1 : Int32) (n3.toInt64) pM pB pD  h0 n0 Z0 (show 0 ≤ (n3.toInt64).toInt ∧ (n3.toInt64).toInt ≤ 21 from by omega) (show 1 ≤ (1 : Int32).toInt ∧ (1 : Int32).toInt ≤ 3 from by omega) (show ((1 : Int32).toInt ≤ pM.toInt ∧ (n3.toInt64).toInt ≤ pB.toInt ∧ (n3.toInt64).toInt + (128 * (1 : Int32).toInt) ≤ pD.toInt) from by omega)) e0 259 260 118 261 0 q43_17 [(.int 1), (.long (n3.toInt64)), (.int pM), (.long pB), (.long pD)] [] pd_28 hy_11 fun v2 T2 L2 hQ2 X2 => ?_
 obtain ⟨rfl, Nq2, eq2⟩ := hQ2
 have N2 := Fr.app N0 Nq2
 refine oV ?_
 refine o_in X2 hx hby q43_20 ((if0 _ _).trans (feq (by decide)).1) ?_
 refine o_ic X2 hx hby 1 q43_23 ?_
 refine o_isw X2 hx hby q43_24 #[vI 3, vR aN, vI pM, vJ pB, .second, vJ pD, .second, vI 1] ?_
 refine o_il X2 hx hby q43_26 ?_
 refine o_ic X2 hx hby 2 q43_27 ?_
 refine o_cn X2 hx hby q43_28 ((flt (by decide)).1) ?_
 refine o_ic X2 hx hby 2 q43_31 ?_
 refine o_al X2 hx hby q43_32 ?_
 refine o_il X2 hx hby q43_33 ?_
 refine o_ia (z := n3) X2 hx hZ hby eq2 (P0) q43_34 ⟨by decide, by decide⟩ ?_
 refine o_i2l X2 hx hby q43_35 ?_
 refine o_al X2 hx hby q43_36 ?_
 refine o_il X2 hx hby q43_37 ?_
 refine o_ic X2 hx hby 1 q43_38 ?_
 refine o_isub X2 hx hby q43_39 ?_
 rw [show (((3 : Int32) - (1 : Int32)) : Int32) = (2 : Int32) from by decide]
 refine o_ia (z := n2) X2 hx hZ hby eq2 (P0) q43_40 ⟨by decide, by decide⟩ ?_
 refine o_i2l X2 hx hby q43_41 ?_
 refine o_ladd X2 hx hby q43_42 ?_
 refine o_il X2 hx hby q43_43 ?_
 refine o_ll X2 hx hby q43_44 ?_
 refine o_lw X2 hx hby q43_45 ?_
 have := c_i2l n2
 have := And.intro (c_ladd (n3).toInt64 (n2).toInt64) (rng64 ((n3).toInt64 + (n2).toInt64))
 have : (2 : Int32).toInt = 2 := (by decide)
 refine o_cS X2 hx hZ hown hw hml hby (rm93 l Z a0 hw [] (2 : Int32) ((n3.toInt64) + (n2.toInt64)) pM pB pD  h0 n0 Z0 (show 0 ≤ ((n3.toInt64) + (n2.toInt64)).toInt ∧ ((n3.toInt64) + (n2.toInt64)).toInt ≤ 21 from by omega) (show 1 ≤ (2 : Int32).toInt ∧ (2 : Int32).toInt ≤ 3 from by omega) (show ((2 : Int32).toInt ≤ pM.toInt ∧ ((n3.toInt64) + (n2.toInt64)).toInt ≤ pB.toInt ∧ ((n3.toInt64) + (n2.toInt64)).toInt + (128 * (2 : Int32).toInt) ≤ pD.toInt) from by omega)) eq2 259 260 118 261 0 q43_47 [(.int 2), (.long ((n3.toInt64) + (n2.toInt64))), (.int pM), (.long pB), (.long pD)] [] pd_28 hy_11 fun v5 T5 L5 hQ5 X5 => ?_
 obtain ⟨rfl, Nq5, eq5⟩ := hQ5
 have N5 := Fr.app N2 Nq5
 refine oV ?_
 refine o_in X5 hx hby q43_50 ((if0 _ _).trans (feq (by decide)).1) ?_
 refine o_ic X5 hx hby 2 q43_53 ?_
 refine o_isw X5 hx hby q43_54 #[vI 3, vR aN, vI pM, vJ pB, .second, vJ pD, .second, vI 2] ?_
 refine o_il X5 hx hby q43_56 ?_
 refine o_ic X5 hx hby 3 q43_57 ?_
 refine o_cn X5 hx hby q43_58 ((flt (by decide)).1) ?_
 refine o_ic X5 hx hby 3 q43_61 ?_
 refine o_al X5 hx hby q43_62 ?_
 refine o_ic X5 hx hby 1 q43_63 ?_
 refine o_ia (z := n1) X5 hx hZ hby eq5 (P0) q43_64 ⟨by decide, by decide⟩ ?_
 refine o_i2l X5 hx hby q43_65 ?_
 refine o_al X5 hx hby q43_66 ?_
 refine o_ic X5 hx hby 2 q43_67 ?_
 refine o_ia (z := n2) X5 hx hZ hby eq5 (P0) q43_68 ⟨by decide, by decide⟩ ?_
 refine o_i2l X5 hx hby q43_69 ?_
 refine o_ladd X5 hx hby q43_70 ?_
 refine o_al X5 hx hby q43_71 ?_
 refine o_ic X5 hx hby 3 q43_72 ?_
 refine o_ia (z := n3) X5 hx hZ hby eq5 (P0) q43_73 ⟨by decide, by decide⟩ ?_
 refine o_i2l X5 hx hby q43_74 ?_
 refine o_ladd X5 hx hby q43_75 ?_
 refine o_il X5 hx hby q43_76 ?_
 refine o_ll X5 hx hby q43_77 ?_
 refine o_lw X5 hx hby q43_78 ?_
 have := c_i2l n1
 have := And.intro (c_ladd (n1).toInt64 (n2).toInt64) (rng64 ((n1).toInt64 + (n2).toInt64))
 have := And.intro (c_ladd ((n1).toInt64 + (n2).toInt64) (n3).toInt64) (rng64 (((n1).toInt64 + (n2).toInt64) + (n3).toInt64))
 have : (3 : Int32).toInt = 3 := (by decide)
 refine o_cS X5 hx hZ hown hw hml hby (rm93 l Z a0 hw [] (3 : Int32) (((n1.toInt64) + (n2.toInt64)) + (n3.toInt64)) pM pB pD  h0 n0 Z0 (show 0 ≤ (((n1.toInt64) + (n2.toInt64)) + (n3.toInt64)).toInt ∧ (((n1.toInt64) + (n2.toInt64)) + (n3.toInt64)).toInt ≤ 21 from by omega) (show 1 ≤ (3 : Int32).toInt ∧ (3 : Int32).toInt ≤ 3 from by omega) (show ((3 : Int32).toInt ≤ pM.toInt ∧ (((n1.toInt64) + (n2.toInt64)) + (n3.toInt64)).toInt ≤ pB.toInt ∧ (((n1.toInt64) + (n2.toInt64)) + (n3.toInt64)).toInt + (128 * (3 : Int32).toInt) ≤ pD.toInt) from by omega)) eq5 259 260 118 261 0 q43_80 [(.int 3), (.long (((n1.toInt64) + (n2.toInt64)) + (n3.toInt64))), (.int pM), (.long pB), (.long pD)] [] pd_28 hy_11 fun v9 T9 L9 hQ9 X9 => ?_
 obtain ⟨rfl, Nq9, eq9⟩ := hQ9
 have N9 := Fr.app N5 Nq9
 refine oV ?_
 refine o_in X9 hx hby q43_83 ((if0 _ _).trans (feq (by decide)).1) ?_
 refine o_ic X9 hx hby 3 q43_86 ?_
 refine o_isw X9 hx hby q43_87 #[vI 3, vR aN, vI pM, vJ pB, .second, vJ pD, .second, vI 3] ?_
 refine o_iw X9 hx hby q43_89 ?_
 exact o_rI X9 hx hby hrt hlk q43_91 (by rw [eq9]; exact ⟨rfl, N9, rfl⟩)
set_option maxRecDepth 65536 in
set_option maxHeartbeats 40000000 in
theorem sg105 (l Z a0) (hw : oW a0 Z) (x0 : Int32) (x1 x3 : Int64) (x5 : Int32) (x6 : Int64) (M : Int32) (mb bd : Int64) (n1 n2 n3 : Int32) (pq : Int64) (aE1 aE2 : Addr) (aE3 aV : Addr) (aN aH : Addr) (aS aG : Addr) (hd : Int32) (by_ : Int64) (fv : Nat → Value) (kN : ClassId) (h0 : Heap) (n0 : Nat) (Z0 : n0 ≤ h0.size) (P0 : own_Hi Z h0 aH M mb aS aG hd (0 : Int32) by_ (0 : Int64)) (P1 : own_RE Z h0 aV (4 : Int32) fv) (P2 : fv (1 : Int32).toNatClampNeg = .ref aE1) (P3 : fv (2 : Int32).toNatClampNeg = .ref aE2) (P4 : fv (3 : Int32).toNatClampNeg = .ref aE3) (P5 : Arv Z h0 aN kN .int (4 : Int32) [(.int 0), (.int n1), (.int n2), (.int n3)] (.int 0)) (P6 : 0 ≤ M.toInt ∧ M.toInt ≤ 7) (P7 : 0 ≤ n1.toInt ∧ n1.toInt ≤ 7) (P8 : 0 ≤ n2.toInt ∧ n2.toInt ≤ 7) (P9 : 0 ≤ n3.toInt ∧ n3.toInt ≤ 7) (P10 : 0 ≤ mb.toInt)
   (hx : p.tables.exec = Jvm.exec) (hby : c.code = code) (hml : c.maxLocals = 28) (hZ : Z.Warmed39 s.vm) (hown : s.vm.findClass "com/example/lockstep/lockstep/session/HistoryGetPinLaw" = some m.cls)
   (X0 : Stand p l e room_1 s m #[(.int x0), (.long x1), (.long x3), (.int x5), (.long x6)] below meth c s₁ locs 36 230) (e0 : s₁.heap = h0) (N0 : Fr n0 locs)
   (κ₀ : ∀ (T' : State) (L' : List Loc) (Ls : Array Slot), Stand p l e room_1 s m #[(.int x0), (.long x1), (.long x3), (.int x5), (.long x6)] below meth c T' L' 40 256 → Fr n0 L' → oG p e below F₀ (T'.setTop (mkF m 346 Ls [(.int 1)]))) :
   oG p e below F₀ (s₁.setTop (mkF m 270 (TL x0 x1 x3 x5 x6 M mb bd n1 n2 n3 0 pq aE1 aE2 aE3 aV aN aH .unset .unset .unset) [])) := by
 refine o_aw X0 hx hby at_270 ?_
 refine o_lw X0 hx hby at_272 ?_
 have : (0 : Int32).toInt = 0 := (by decide)
 have : (0 : Int64).toInt = 0 := (by decide)
 refine o_cV X0 hx hZ hown hw hml hby (rm89 l Z a0 hw [] aH pq M mb aS aG hd (0 : Int32) by_ (0 : Int64) h0 n0 Z0 P0 (show 0 ≤ (0 : Int32).toInt ∧ (0 : Int32).toInt ≤ (0 : Int64).toInt ∧ (0 : Int64).toInt ≤ 3 from by omega) (show ¬ ((0 : Int64).toInt - (0 : Int32).toInt + 1 ≤ pq.toInt ∧ pq.toInt ≤ (0 : Int64).toInt) from by omega)) (P0.1) e0 107 108 110 109 111 28 0 at_274 [(.long pq)] [] pd_29 hy_9 fun v1 T1 L1 hQ1 X1 => ?_
 obtain ⟨rfl, Nq1, eq1⟩ := hQ1
 have N1 := Fr.app N0 Nq1
 refine oV ?_
 refine o_asw X1 hx hby at_277 (TL x0 x1 x3 x5 x6 M mb bd n1 n2 n3 0 pq aE1 aE2 aE3 aV aN aH (.val .null) .unset .unset) ?_
 refine o_iw X1 hx hby at_279 ?_
 refine o_aw X1 hx hby at_281 ?_
 refine o_iw X1 hx hby at_283 ?_
 refine o_lw X1 hx hby at_285 ?_
 refine o_lw X1 hx hby at_287 ?_
 refine o_cS X1 hx hZ hown hw hml hby (rm95 l Z a0 hw [] aN M mb bd kN n1 n2 n3 h0 n0 Z0 P5 P7 P8 P9 P6 P10) eq1 116 117 118 119 0 at_289 [(.int 0), (.ref aN), (.int M), (.long mb), (.long bd)] [] pd_30 hy_11 fun v2 T2 L2 hQ2 X2 => ?_
 obtain ⟨rfl, Nq2, eq2⟩ := hQ2
 have N2 := Fr.app N1 Nq2
 refine oV ?_
 refine o_isw X2 hx hby at_292 (TL x0 x1 x3 x5 x6 M mb bd n1 n2 n3 0 pq aE1 aE2 aE3 aV aN aH (.val .null) (vI 0) .unset) ?_
 refine o_an X2 hx hby at_294 ?_
 refine o_asw X2 hx hby at_295 (TL x0 x1 x3 x5 x6 M mb bd n1 n2 n3 0 pq aE1 aE2 aE3 aV aN aH (.val .null) (vI 0) (.val .null)) ?_
 refine o_iw X2 hx hby at_297 ?_
 refine o_ic X2 hx hby 1 at_299 ?_
 refine o_cy X2 hx hby at_300 334 ((tlt (by decide)).1) ?_
 refine o_aw X2 hx hby at_334 ?_
 refine o_aw X2 hx hby at_336 ?_
 refine o_ac X2 hx hby at_338 341 true (decide_eq_true rfl) ?_
 refine o_ic X2 hx hby 1 at_341 ?_
 refine o_gt X2 hx hby at_342 346 ?_
 exact κ₀ _ _ _ (X2.more (by decide) (by decide)) N2
set_option maxRecDepth 65536 in
set_option maxHeartbeats 40000000 in
theorem sg106 (l Z a0) (hw : oW a0 Z) (x0 : Int32) (x1 x3 : Int64) (x5 : Int32) (x6 : Int64) (M : Int32) (mb bd : Int64) (n1 n2 n3 : Int32) (pq : Int64) (aE1 aE2 : Addr) (aE3 aV : Addr) (aN aH : Addr) (aS aG : Addr) (hd : Int32) (by_ : Int64) (fv : Nat → Value) (kN : ClassId) (h0 : Heap) (n0 : Nat) (Z0 : n0 ≤ h0.size) (P0 : own_Hi Z h0 aH M mb aS aG hd (0 : Int32) by_ (1 : Int64)) (P1 : own_RE Z h0 aV (4 : Int32) fv) (P2 : fv (1 : Int32).toNatClampNeg = .ref aE1) (P3 : fv (2 : Int32).toNatClampNeg = .ref aE2) (P4 : fv (3 : Int32).toNatClampNeg = .ref aE3) (P5 : Arv Z h0 aN kN .int (4 : Int32) [(.int 0), (.int n1), (.int n2), (.int n3)] (.int 0)) (P6 : 0 ≤ M.toInt ∧ M.toInt ≤ 7) (P7 : 0 ≤ n1.toInt ∧ n1.toInt ≤ 7) (P8 : 0 ≤ n2.toInt ∧ n2.toInt ≤ 7) (P9 : 0 ≤ n3.toInt ∧ n3.toInt ≤ 7) (P10 : 0 ≤ mb.toInt) (P11 : ¬ (1 ≤ M.toInt ∧ n1.toInt ≤ mb.toInt ∧ n1.toInt + 128 ≤ bd.toInt))
   (hx : p.tables.exec = Jvm.exec) (hby : c.code = code) (hml : c.maxLocals = 28) (hZ : Z.Warmed39 s.vm) (hown : s.vm.findClass "com/example/lockstep/lockstep/session/HistoryGetPinLaw" = some m.cls)
   (X0 : Stand p l e room_1 s m #[(.int x0), (.long x1), (.long x3), (.int x5), (.long x6)] below meth c s₁ locs 36 230) (e0 : s₁.heap = h0) (N0 : Fr n0 locs)
   (κ₀ : ∀ (T' : State) (L' : List Loc) (Ls : Array Slot), Stand p l e room_1 s m #[(.int x0), (.long x1), (.long x3), (.int x5), (.long x6)] below meth c T' L' 40 256 → Fr n0 L' → oG p e below F₀ (T'.setTop (mkF m 346 Ls [(.int 1)]))) :
   oG p e below F₀ (s₁.setTop (mkF m 270 (TL x0 x1 x3 x5 x6 M mb bd n1 n2 n3 1 pq aE1 aE2 aE3 aV aN aH .unset .unset .unset) [])) := by
 refine o_aw X0 hx hby at_270 ?_
 refine o_lw X0 hx hby at_272 ?_
 have : (0 : Int32).toInt = 0 := (by decide)
 have : (1 : Int64).toInt = 1 := (by decide)
 refine o_cV X0 hx hZ hown hw hml hby (rm89 l Z a0 hw [] aH pq M mb aS aG hd (0 : Int32) by_ (1 : Int64) h0 n0 Z0 P0 (show 0 ≤ (0 : Int32).toInt ∧ (0 : Int32).toInt ≤ (1 : Int64).toInt ∧ (1 : Int64).toInt ≤ 3 from by omega) (show ¬ ((1 : Int64).toInt - (0 : Int32).toInt + 1 ≤ pq.toInt ∧ pq.toInt ≤ (1 : Int64).toInt) from by omega)) (P0.1) e0 107 108 110 109 111 28 0 at_274 [(.long pq)] [] pd_29 hy_9 fun v1 T1 L1 hQ1 X1 => ?_
 obtain ⟨rfl, Nq1, eq1⟩ := hQ1
 have N1 := Fr.app N0 Nq1
 refine oV ?_
 refine o_asw X1 hx hby at_277 (TL x0 x1 x3 x5 x6 M mb bd n1 n2 n3 1 pq aE1 aE2 aE3 aV aN aH (.val .null) .unset .unset) ?_
 refine o_iw X1 hx hby at_279 ?_
 refine o_aw X1 hx hby at_281 ?_
 refine o_iw X1 hx hby at_283 ?_
 refine o_lw X1 hx hby at_285 ?_
 refine o_lw X1 hx hby at_287 ?_
 refine o_cS X1 hx hZ hown hw hml hby (rm96 l Z a0 hw [] aN M mb bd kN n1 n2 n3 h0 n0 Z0 P5 P7 P8 P9 P6 P10 P11) eq1 116 117 118 119 0 at_289 [(.int 1), (.ref aN), (.int M), (.long mb), (.long bd)] [] pd_30 hy_11 fun v2 T2 L2 hQ2 X2 => ?_
 obtain ⟨rfl, Nq2, eq2⟩ := hQ2
 have N2 := Fr.app N1 Nq2
 refine oV ?_
 refine o_isw X2 hx hby at_292 (TL x0 x1 x3 x5 x6 M mb bd n1 n2 n3 1 pq aE1 aE2 aE3 aV aN aH (.val .null) (vI 0) .unset) ?_
 refine o_an X2 hx hby at_294 ?_
 refine o_asw X2 hx hby at_295 (TL x0 x1 x3 x5 x6 M mb bd n1 n2 n3 1 pq aE1 aE2 aE3 aV aN aH (.val .null) (vI 0) (.val .null)) ?_
 refine o_iw X2 hx hby at_297 ?_
 refine o_ic X2 hx hby 1 at_299 ?_
 refine o_cy X2 hx hby at_300 334 ((tlt (by decide)).1) ?_
 refine o_aw X2 hx hby at_334 ?_
 refine o_aw X2 hx hby at_336 ?_
 refine o_ac X2 hx hby at_338 341 true (decide_eq_true rfl) ?_
 refine o_ic X2 hx hby 1 at_341 ?_
 refine o_gt X2 hx hby at_342 346 ?_
 exact κ₀ _ _ _ (X2.more (by decide) (by decide)) N2
set_option maxRecDepth 65536 in
set_option maxHeartbeats 40000000 in
theorem sg107 (l Z a0) (hw : oW a0 Z) (x0 : Int32) (x1 x3 : Int64) (x5 : Int32) (x6 : Int64) (M : Int32) (mb bd : Int64) (n1 n2 n3 : Int32) (pq : Int64) (aE1 aE2 : Addr) (aE3 aV : Addr) (aN aH : Addr) (aS aG : Addr) (hd : Int32) (by_ : Int64) (f fv : Nat → Value) (kN : ClassId) (h0 : Heap) (n0 : Nat) (Z0 : n0 ≤ h0.size) (P0 : own_Hi Z h0 aH M mb aS aG hd (1 : Int32) by_ (1 : Int64)) (P1 : own_RE Z h0 aG M f) (P2 : f hd.toNatClampNeg = .ref aE1) (P3 : own_RE Z h0 aV (4 : Int32) fv) (P4 : fv (1 : Int32).toNatClampNeg = .ref aE1) (P5 : fv (2 : Int32).toNatClampNeg = .ref aE2) (P6 : fv (3 : Int32).toNatClampNeg = .ref aE3) (P7 : Arv Z h0 aN kN .int (4 : Int32) [(.int 0), (.int n1), (.int n2), (.int n3)] (.int 0)) (P8 : 0 ≤ M.toInt ∧ M.toInt ≤ 7) (P9 : 0 ≤ hd.toInt ∧ hd.toInt < M.toInt) (P10 : 0 ≤ n1.toInt ∧ n1.toInt ≤ 7) (P11 : 0 ≤ n2.toInt ∧ n2.toInt ≤ 7) (P12 : 0 ≤ n3.toInt ∧ n3.toInt ≤ 7) (P13 : 0 ≤ mb.toInt) (P14 : (1 ≤ M.toInt ∧ n1.toInt ≤ mb.toInt ∧ n1.toInt + 128 ≤ bd.toInt))
   (hx : p.tables.exec = Jvm.exec) (hby : c.code = code) (hml : c.maxLocals = 28) (hZ : Z.Warmed39 s.vm) (hown : s.vm.findClass "com/example/lockstep/lockstep/session/HistoryGetPinLaw" = some m.cls)
   (X0 : Stand p l e room_1 s m #[(.int x0), (.long x1), (.long x3), (.int x5), (.long x6)] below meth c s₁ locs 36 230) (e0 : s₁.heap = h0) (N0 : Fr n0 locs)
   (κ₀ : ∀ (T' : State) (L' : List Loc) (Ls : Array Slot), Stand p l e room_1 s m #[(.int x0), (.long x1), (.long x3), (.int x5), (.long x6)] below meth c T' L' 40 256 → Fr n0 L' → oG p e below F₀ (T'.setTop (mkF m 346 Ls [(.int 1)]))) :
   oG p e below F₀ (s₁.setTop (mkF m 270 (TL x0 x1 x3 x5 x6 M mb bd n1 n2 n3 1 pq aE1 aE2 aE3 aV aN aH .unset .unset .unset) [])) := by
 by_cases hc1 : pq.toInt = 1
 · refine o_aw X0 hx hby at_270 ?_
   refine o_lw X0 hx hby at_272 ?_
   have : (1 : Int32).toInt = 1 := (by decide)
   have : (1 : Int64).toInt = 1 := (by decide)
   refine o_cV X0 hx hZ hown hw hml hby (rm90 l Z a0 hw [] aH pq M mb aS aG hd (1 : Int32) by_ (1 : Int64) f aE1 h0 n0 Z0 P0 P1 P2 P8 P9 (show 0 ≤ (1 : Int32).toInt ∧ (1 : Int32).toInt ≤ (1 : Int64).toInt ∧ (1 : Int64).toInt ≤ 3 from by omega) (show 0 < (1 : Int32).toInt from by omega) (show pq.toInt = (1 : Int64).toInt - (1 : Int32).toInt + 1 from by omega)) (P0.1) e0 107 108 110 109 111 28 0 at_274 [(.long pq)] [] pd_29 hy_9 fun v2 T2 L2 hQ2 X2 => ?_
   obtain ⟨rfl, Nq2, eq2⟩ := hQ2
   have N2 := Fr.app N0 Nq2
   refine oV ?_
   refine o_asw X2 hx hby at_277 (TL x0 x1 x3 x5 x6 M mb bd n1 n2 n3 1 pq aE1 aE2 aE3 aV aN aH (vR aE1) .unset .unset) ?_
   refine o_iw X2 hx hby at_279 ?_
   refine o_aw X2 hx hby at_281 ?_
   refine o_iw X2 hx hby at_283 ?_
   refine o_lw X2 hx hby at_285 ?_
   refine o_lw X2 hx hby at_287 ?_
   refine o_cS X2 hx hZ hown hw hml hby (rm97 l Z a0 hw [] aN M mb bd kN n1 n2 n3 h0 n0 Z0 P7 P10 P11 P12 P8 P13 P14) eq2 116 117 118 119 0 at_289 [(.int 1), (.ref aN), (.int M), (.long mb), (.long bd)] [] pd_30 hy_11 fun v3 T3 L3 hQ3 X3 => ?_
   obtain ⟨rfl, Nq3, eq3⟩ := hQ3
   have N3 := Fr.app N2 Nq3
   refine oV ?_
   refine o_isw X3 hx hby at_292 (TL x0 x1 x3 x5 x6 M mb bd n1 n2 n3 1 pq aE1 aE2 aE3 aV aN aH (vR aE1) (vI 1) .unset) ?_
   refine o_an X3 hx hby at_294 ?_
   refine o_asw X3 hx hby at_295 (TL x0 x1 x3 x5 x6 M mb bd n1 n2 n3 1 pq aE1 aE2 aE3 aV aN aH (vR aE1) (vI 1) (.val .null)) ?_
   refine o_iw X3 hx hby at_297 ?_
   refine o_ic X3 hx hby 1 at_299 ?_
   refine o_cn X3 hx hby at_300 ((flt (by decide)).1) ?_
   refine o_lw X3 hx hby at_303 ?_
   refine o_iw X3 hx hby at_305 ?_
   refine o_iw X3 hx hby at_307 ?_
   refine o_isub X3 hx hby at_309 ?_
   rw [show (((1 : Int32) - (1 : Int32)) : Int32) = (0 : Int32) from by decide]
   refine o_ic X3 hx hby 1 at_310 ?_
   refine o_iadd X3 hx hby at_311 ?_
   rw [show (((0 : Int32) + (1 : Int32)) : Int32) = (1 : Int32) from by decide]
   refine o_i2l X3 hx hby at_312 ?_
   refine o_lcmp X3 hx hby at_313 ?_
   have : ((1 : Int32)).toInt64.toInt = 1 := (by decide)
   refine o_in X3 hx hby at_314 ((if0 _ _).trans (flt (fun q => absurd ((lw_lt _ _).mp q) (show ¬ (pq < ((1 : Int32).toInt64)) from mt Int64.lt_iff_toInt_lt.mp (by omega)))).1) ?_
   refine o_lw X3 hx hby at_317 ?_
   refine o_iw X3 hx hby at_319 ?_
   refine o_i2l X3 hx hby at_321 ?_
   refine o_lcmp X3 hx hby at_322 ?_
   refine o_in X3 hx hby at_323 ((if0 _ _).trans (flt (fun q => absurd ((lw_gt _ _).mp q) (show ¬ (((1 : Int32).toInt64) < pq) from mt Int64.lt_iff_toInt_lt.mp (by omega)))).2.2.1) ?_
   refine o_aw X3 hx hby at_326 ?_
   refine o_lw X3 hx hby at_328 ?_
   refine o_l2i X3 hx hby at_330 ?_
   have := And.intro (c_l2i pq) (rng32 (pq).toInt32)
   have : (0 : Int32).toInt = 0 := (by decide)
   have : (4 : Int32).toInt = 4 := (by decide)
   refine o_aa (v := (.ref aE1)) X3 hx hZ hby eq3 P3 at_331 ⟨(show ¬ ((pq.toInt32) < (0 : Int32)) from mt Int32.lt_iff_toInt_lt.mp (by omega)), (show (pq.toInt32) < (4 : Int32) from Int32.lt_iff_toInt_lt.mpr (by omega))⟩ ((congrArg fv (own_eqp (show (pq.toInt32).toInt = (1 : Int32).toInt from by omega))).trans P4) ?_
   refine o_asw X3 hx hby at_332 (TL x0 x1 x3 x5 x6 M mb bd n1 n2 n3 1 pq aE1 aE2 aE3 aV aN aH (vR aE1) (vI 1) (vR aE1)) ?_
   refine o_aw X3 hx hby at_334 ?_
   refine o_aw X3 hx hby at_336 ?_
   refine o_ac X3 hx hby at_338 341 true (decide_eq_true rfl) ?_
   refine o_ic X3 hx hby 1 at_341 ?_
   refine o_gt X3 hx hby at_342 346 ?_
   exact κ₀ _ _ _ (X3.more (by decide) (by decide)) N3
 · refine o_aw X0 hx hby at_270 ?_
   refine o_lw X0 hx hby at_272 ?_
   have : (1 : Int32).toInt = 1 := (by decide)
   have : (1 : Int64).toInt = 1 := (by decide)
   refine o_cV X0 hx hZ hown hw hml hby (rm89 l Z a0 hw [] aH pq M mb aS aG hd (1 : Int32) by_ (1 : Int64) h0 n0 Z0 P0 (show 0 ≤ (1 : Int32).toInt ∧ (1 : Int32).toInt ≤ (1 : Int64).toInt ∧ (1 : Int64).toInt ≤ 3 from by omega) (show ¬ ((1 : Int64).toInt - (1 : Int32).toInt + 1 ≤ pq.toInt ∧ pq.toInt ≤ (1 : Int64).toInt) from by omega)) (P0.1) e0 107 108 110 109 111 28 0 at_274 [(.long pq)] [] pd_29 hy_9 fun v5 T5 L5 hQ5 X5 => ?_
   obtain ⟨rfl, Nq5, eq5⟩ := hQ5
   have N5 := Fr.app N0 Nq5
   refine oV ?_
   refine o_asw X5 hx hby at_277 (TL x0 x1 x3 x5 x6 M mb bd n1 n2 n3 1 pq aE1 aE2 aE3 aV aN aH (.val .null) .unset .unset) ?_
   refine o_iw X5 hx hby at_279 ?_
   refine o_aw X5 hx hby at_281 ?_
   refine o_iw X5 hx hby at_283 ?_
   refine o_lw X5 hx hby at_285 ?_
   refine o_lw X5 hx hby at_287 ?_
   refine o_cS X5 hx hZ hown hw hml hby (rm97 l Z a0 hw [] aN M mb bd kN n1 n2 n3 h0 n0 Z0 P7 P10 P11 P12 P8 P13 P14) eq5 116 117 118 119 0 at_289 [(.int 1), (.ref aN), (.int M), (.long mb), (.long bd)] [] pd_30 hy_11 fun v6 T6 L6 hQ6 X6 => ?_
   obtain ⟨rfl, Nq6, eq6⟩ := hQ6
   have N6 := Fr.app N5 Nq6
   refine oV ?_
   refine o_isw X6 hx hby at_292 (TL x0 x1 x3 x5 x6 M mb bd n1 n2 n3 1 pq aE1 aE2 aE3 aV aN aH (.val .null) (vI 1) .unset) ?_
   refine o_an X6 hx hby at_294 ?_
   refine o_asw X6 hx hby at_295 (TL x0 x1 x3 x5 x6 M mb bd n1 n2 n3 1 pq aE1 aE2 aE3 aV aN aH (.val .null) (vI 1) (.val .null)) ?_
   refine o_iw X6 hx hby at_297 ?_
   refine o_ic X6 hx hby 1 at_299 ?_
   refine o_cn X6 hx hby at_300 ((flt (by decide)).1) ?_
   refine o_lw X6 hx hby at_303 ?_
   refine o_iw X6 hx hby at_305 ?_
   refine o_iw X6 hx hby at_307 ?_
   refine o_isub X6 hx hby at_309 ?_
   rw [show (((1 : Int32) - (1 : Int32)) : Int32) = (0 : Int32) from by decide]
   refine o_ic X6 hx hby 1 at_310 ?_
   refine o_iadd X6 hx hby at_311 ?_
   rw [show (((0 : Int32) + (1 : Int32)) : Int32) = (1 : Int32) from by decide]
   refine o_i2l X6 hx hby at_312 ?_
   refine o_lcmp X6 hx hby at_313 ?_
   by_cases hc7 : pq < ((1 : Int32).toInt64)
   · refine o_iy X6 hx hby at_314 334 ((if0 _ _).trans (tlt ((lw_lt _ _).mpr hc7)).1) ?_
     refine o_aw X6 hx hby at_334 ?_
     refine o_aw X6 hx hby at_336 ?_
     refine o_ac X6 hx hby at_338 341 true (decide_eq_true rfl) ?_
     refine o_ic X6 hx hby 1 at_341 ?_
     refine o_gt X6 hx hby at_342 346 ?_
     exact κ₀ _ _ _ (X6.more (by decide) (by decide)) N6
   · refine o_in X6 hx hby at_314 ((if0 _ _).trans (flt (fun q => absurd ((lw_lt _ _).mp q) hc7)).1) ?_
     refine o_lw X6 hx hby at_317 ?_
     refine o_iw X6 hx hby at_319 ?_
     refine o_i2l X6 hx hby at_321 ?_
     refine o_lcmp X6 hx hby at_322 ?_
     have := (mt Int64.lt_iff_toInt_lt.mpr hc7)
     have : ((1 : Int32)).toInt64.toInt = 1 := (by decide)
     refine o_iy X6 hx hby at_323 334 ((if0 _ _).trans (tlt ((lw_gt _ _).mpr (show ((1 : Int32).toInt64) < pq from Int64.lt_iff_toInt_lt.mpr (by omega)))).2.2.1) ?_
     refine o_aw X6 hx hby at_334 ?_
     refine o_aw X6 hx hby at_336 ?_
     refine o_ac X6 hx hby at_338 341 true (decide_eq_true rfl) ?_
     refine o_ic X6 hx hby 1 at_341 ?_
     refine o_gt X6 hx hby at_342 346 ?_
     exact κ₀ _ _ _ (X6.more (by decide) (by decide)) N6
set_option maxRecDepth 65536 in
set_option maxHeartbeats 40000000 in
theorem sg108 (l Z a0) (hw : oW a0 Z) (x0 : Int32) (x1 x3 : Int64) (x5 : Int32) (x6 : Int64) (M : Int32) (mb bd : Int64) (n1 n2 n3 : Int32) (pq : Int64) (aE1 aE2 : Addr) (aE3 aV : Addr) (aN aH : Addr) (aS aG : Addr) (hd : Int32) (by_ : Int64) (fv : Nat → Value) (kN : ClassId) (h0 : Heap) (n0 : Nat) (Z0 : n0 ≤ h0.size) (P0 : own_Hi Z h0 aH M mb aS aG hd (0 : Int32) by_ (2 : Int64)) (P1 : own_RE Z h0 aV (4 : Int32) fv) (P2 : fv (1 : Int32).toNatClampNeg = .ref aE1) (P3 : fv (2 : Int32).toNatClampNeg = .ref aE2) (P4 : fv (3 : Int32).toNatClampNeg = .ref aE3) (P5 : Arv Z h0 aN kN .int (4 : Int32) [(.int 0), (.int n1), (.int n2), (.int n3)] (.int 0)) (P6 : 0 ≤ M.toInt ∧ M.toInt ≤ 7) (P7 : 0 ≤ n1.toInt ∧ n1.toInt ≤ 7) (P8 : 0 ≤ n2.toInt ∧ n2.toInt ≤ 7) (P9 : 0 ≤ n3.toInt ∧ n3.toInt ≤ 7) (P10 : 0 ≤ mb.toInt) (P11 : ¬ (1 ≤ M.toInt ∧ n2.toInt ≤ mb.toInt ∧ n2.toInt + 128 ≤ bd.toInt))
   (hx : p.tables.exec = Jvm.exec) (hby : c.code = code) (hml : c.maxLocals = 28) (hZ : Z.Warmed39 s.vm) (hown : s.vm.findClass "com/example/lockstep/lockstep/session/HistoryGetPinLaw" = some m.cls)
   (X0 : Stand p l e room_1 s m #[(.int x0), (.long x1), (.long x3), (.int x5), (.long x6)] below meth c s₁ locs 36 230) (e0 : s₁.heap = h0) (N0 : Fr n0 locs)
   (κ₀ : ∀ (T' : State) (L' : List Loc) (Ls : Array Slot), Stand p l e room_1 s m #[(.int x0), (.long x1), (.long x3), (.int x5), (.long x6)] below meth c T' L' 40 256 → Fr n0 L' → oG p e below F₀ (T'.setTop (mkF m 346 Ls [(.int 1)]))) :
   oG p e below F₀ (s₁.setTop (mkF m 270 (TL x0 x1 x3 x5 x6 M mb bd n1 n2 n3 2 pq aE1 aE2 aE3 aV aN aH .unset .unset .unset) [])) := by
 refine o_aw X0 hx hby at_270 ?_
 refine o_lw X0 hx hby at_272 ?_
 have : (0 : Int32).toInt = 0 := (by decide)
 have : (2 : Int64).toInt = 2 := (by decide)
 refine o_cV X0 hx hZ hown hw hml hby (rm89 l Z a0 hw [] aH pq M mb aS aG hd (0 : Int32) by_ (2 : Int64) h0 n0 Z0 P0 (show 0 ≤ (0 : Int32).toInt ∧ (0 : Int32).toInt ≤ (2 : Int64).toInt ∧ (2 : Int64).toInt ≤ 3 from by omega) (show ¬ ((2 : Int64).toInt - (0 : Int32).toInt + 1 ≤ pq.toInt ∧ pq.toInt ≤ (2 : Int64).toInt) from by omega)) (P0.1) e0 107 108 110 109 111 28 0 at_274 [(.long pq)] [] pd_29 hy_9 fun v1 T1 L1 hQ1 X1 => ?_
 obtain ⟨rfl, Nq1, eq1⟩ := hQ1
 have N1 := Fr.app N0 Nq1
 refine oV ?_
 refine o_asw X1 hx hby at_277 (TL x0 x1 x3 x5 x6 M mb bd n1 n2 n3 2 pq aE1 aE2 aE3 aV aN aH (.val .null) .unset .unset) ?_
 refine o_iw X1 hx hby at_279 ?_
 refine o_aw X1 hx hby at_281 ?_
 refine o_iw X1 hx hby at_283 ?_
 refine o_lw X1 hx hby at_285 ?_
 refine o_lw X1 hx hby at_287 ?_
 refine o_cS X1 hx hZ hown hw hml hby (rm98 l Z a0 hw [] aN M mb bd kN n1 n2 n3 h0 n0 Z0 P5 P7 P8 P9 P6 P10 P11) eq1 116 117 118 119 0 at_289 [(.int 2), (.ref aN), (.int M), (.long mb), (.long bd)] [] pd_30 hy_11 fun v2 T2 L2 hQ2 X2 => ?_
 obtain ⟨rfl, Nq2, eq2⟩ := hQ2
 have N2 := Fr.app N1 Nq2
 refine oV ?_
 refine o_isw X2 hx hby at_292 (TL x0 x1 x3 x5 x6 M mb bd n1 n2 n3 2 pq aE1 aE2 aE3 aV aN aH (.val .null) (vI 0) .unset) ?_
 refine o_an X2 hx hby at_294 ?_
 refine o_asw X2 hx hby at_295 (TL x0 x1 x3 x5 x6 M mb bd n1 n2 n3 2 pq aE1 aE2 aE3 aV aN aH (.val .null) (vI 0) (.val .null)) ?_
 refine o_iw X2 hx hby at_297 ?_
 refine o_ic X2 hx hby 1 at_299 ?_
 refine o_cy X2 hx hby at_300 334 ((tlt (by decide)).1) ?_
 refine o_aw X2 hx hby at_334 ?_
 refine o_aw X2 hx hby at_336 ?_
 refine o_ac X2 hx hby at_338 341 true (decide_eq_true rfl) ?_
 refine o_ic X2 hx hby 1 at_341 ?_
 refine o_gt X2 hx hby at_342 346 ?_
 exact κ₀ _ _ _ (X2.more (by decide) (by decide)) N2
set_option maxRecDepth 65536 in
set_option maxHeartbeats 40000000 in
theorem sg109 (l Z a0) (hw : oW a0 Z) (x0 : Int32) (x1 x3 : Int64) (x5 : Int32) (x6 : Int64) (M : Int32) (mb bd : Int64) (n1 n2 n3 : Int32) (pq : Int64) (aE1 aE2 : Addr) (aE3 aV : Addr) (aN aH : Addr) (aS aG : Addr) (hd : Int32) (by_ : Int64) (f fv : Nat → Value) (kN : ClassId) (h0 : Heap) (n0 : Nat) (Z0 : n0 ≤ h0.size) (P0 : own_Hi Z h0 aH M mb aS aG hd (1 : Int32) by_ (2 : Int64)) (P1 : own_RE Z h0 aG M f) (P2 : f hd.toNatClampNeg = .ref aE2) (P3 : own_RE Z h0 aV (4 : Int32) fv) (P4 : fv (1 : Int32).toNatClampNeg = .ref aE1) (P5 : fv (2 : Int32).toNatClampNeg = .ref aE2) (P6 : fv (3 : Int32).toNatClampNeg = .ref aE3) (P7 : Arv Z h0 aN kN .int (4 : Int32) [(.int 0), (.int n1), (.int n2), (.int n3)] (.int 0)) (P8 : 0 ≤ M.toInt ∧ M.toInt ≤ 7) (P9 : 0 ≤ hd.toInt ∧ hd.toInt < M.toInt) (P10 : 0 ≤ n1.toInt ∧ n1.toInt ≤ 7) (P11 : 0 ≤ n2.toInt ∧ n2.toInt ≤ 7) (P12 : 0 ≤ n3.toInt ∧ n3.toInt ≤ 7) (P13 : 0 ≤ mb.toInt) (P14 : (1 ≤ M.toInt ∧ n2.toInt ≤ mb.toInt ∧ n2.toInt + 128 ≤ bd.toInt)) (P15 : ¬ (2 ≤ M.toInt ∧ n1.toInt + n2.toInt ≤ mb.toInt ∧ n1.toInt + n2.toInt + 256 ≤ bd.toInt))
   (hx : p.tables.exec = Jvm.exec) (hby : c.code = code) (hml : c.maxLocals = 28) (hZ : Z.Warmed39 s.vm) (hown : s.vm.findClass "com/example/lockstep/lockstep/session/HistoryGetPinLaw" = some m.cls)
   (X0 : Stand p l e room_1 s m #[(.int x0), (.long x1), (.long x3), (.int x5), (.long x6)] below meth c s₁ locs 36 230) (e0 : s₁.heap = h0) (N0 : Fr n0 locs)
   (κ₀ : ∀ (T' : State) (L' : List Loc) (Ls : Array Slot), Stand p l e room_1 s m #[(.int x0), (.long x1), (.long x3), (.int x5), (.long x6)] below meth c T' L' 40 256 → Fr n0 L' → oG p e below F₀ (T'.setTop (mkF m 346 Ls [(.int 1)]))) :
   oG p e below F₀ (s₁.setTop (mkF m 270 (TL x0 x1 x3 x5 x6 M mb bd n1 n2 n3 2 pq aE1 aE2 aE3 aV aN aH .unset .unset .unset) [])) := by
 by_cases hc1 : pq.toInt = 2
 · refine o_aw X0 hx hby at_270 ?_
   refine o_lw X0 hx hby at_272 ?_
   have : (1 : Int32).toInt = 1 := (by decide)
   have : (2 : Int64).toInt = 2 := (by decide)
   refine o_cV X0 hx hZ hown hw hml hby (rm90 l Z a0 hw [] aH pq M mb aS aG hd (1 : Int32) by_ (2 : Int64) f aE2 h0 n0 Z0 P0 P1 P2 P8 P9 (show 0 ≤ (1 : Int32).toInt ∧ (1 : Int32).toInt ≤ (2 : Int64).toInt ∧ (2 : Int64).toInt ≤ 3 from by omega) (show 0 < (1 : Int32).toInt from by omega) (show pq.toInt = (2 : Int64).toInt - (1 : Int32).toInt + 1 from by omega)) (P0.1) e0 107 108 110 109 111 28 0 at_274 [(.long pq)] [] pd_29 hy_9 fun v2 T2 L2 hQ2 X2 => ?_
   obtain ⟨rfl, Nq2, eq2⟩ := hQ2
   have N2 := Fr.app N0 Nq2
   refine oV ?_
   refine o_asw X2 hx hby at_277 (TL x0 x1 x3 x5 x6 M mb bd n1 n2 n3 2 pq aE1 aE2 aE3 aV aN aH (vR aE2) .unset .unset) ?_
   refine o_iw X2 hx hby at_279 ?_
   refine o_aw X2 hx hby at_281 ?_
   refine o_iw X2 hx hby at_283 ?_
   refine o_lw X2 hx hby at_285 ?_
   refine o_lw X2 hx hby at_287 ?_
   refine o_cS X2 hx hZ hown hw hml hby (rm99 l Z a0 hw [] aN M mb bd kN n1 n2 n3 h0 n0 Z0 P7 P10 P11 P12 P8 P13 P14 P15) eq2 116 117 118 119 0 at_289 [(.int 2), (.ref aN), (.int M), (.long mb), (.long bd)] [] pd_30 hy_11 fun v3 T3 L3 hQ3 X3 => ?_
   obtain ⟨rfl, Nq3, eq3⟩ := hQ3
   have N3 := Fr.app N2 Nq3
   refine oV ?_
   refine o_isw X3 hx hby at_292 (TL x0 x1 x3 x5 x6 M mb bd n1 n2 n3 2 pq aE1 aE2 aE3 aV aN aH (vR aE2) (vI 1) .unset) ?_
   refine o_an X3 hx hby at_294 ?_
   refine o_asw X3 hx hby at_295 (TL x0 x1 x3 x5 x6 M mb bd n1 n2 n3 2 pq aE1 aE2 aE3 aV aN aH (vR aE2) (vI 1) (.val .null)) ?_
   refine o_iw X3 hx hby at_297 ?_
   refine o_ic X3 hx hby 1 at_299 ?_
   refine o_cn X3 hx hby at_300 ((flt (by decide)).1) ?_
   refine o_lw X3 hx hby at_303 ?_
   refine o_iw X3 hx hby at_305 ?_
   refine o_iw X3 hx hby at_307 ?_
   refine o_isub X3 hx hby at_309 ?_
   rw [show (((2 : Int32) - (1 : Int32)) : Int32) = (1 : Int32) from by decide]
   refine o_ic X3 hx hby 1 at_310 ?_
   refine o_iadd X3 hx hby at_311 ?_
   rw [show (((1 : Int32) + (1 : Int32)) : Int32) = (2 : Int32) from by decide]
   refine o_i2l X3 hx hby at_312 ?_
   refine o_lcmp X3 hx hby at_313 ?_
   have : (2 : Int32).toInt = 2 := (by decide)
   have : ((2 : Int32)).toInt64.toInt = 2 := (by decide)
   refine o_in X3 hx hby at_314 ((if0 _ _).trans (flt (fun q => absurd ((lw_lt _ _).mp q) (show ¬ (pq < ((2 : Int32).toInt64)) from mt Int64.lt_iff_toInt_lt.mp (by omega)))).1) ?_
   refine o_lw X3 hx hby at_317 ?_
   refine o_iw X3 hx hby at_319 ?_
   refine o_i2l X3 hx hby at_321 ?_
   refine o_lcmp X3 hx hby at_322 ?_
   refine o_in X3 hx hby at_323 ((if0 _ _).trans (flt (fun q => absurd ((lw_gt _ _).mp q) (show ¬ (((2 : Int32).toInt64) < pq) from mt Int64.lt_iff_toInt_lt.mp (by omega)))).2.2.1) ?_
   refine o_aw X3 hx hby at_326 ?_
   refine o_lw X3 hx hby at_328 ?_
   refine o_l2i X3 hx hby at_330 ?_
   have := And.intro (c_l2i pq) (rng32 (pq).toInt32)
   have : (0 : Int32).toInt = 0 := (by decide)
   have : (4 : Int32).toInt = 4 := (by decide)
   refine o_aa (v := (.ref aE2)) X3 hx hZ hby eq3 P3 at_331 ⟨(show ¬ ((pq.toInt32) < (0 : Int32)) from mt Int32.lt_iff_toInt_lt.mp (by omega)), (show (pq.toInt32) < (4 : Int32) from Int32.lt_iff_toInt_lt.mpr (by omega))⟩ ((congrArg fv (own_eqp (show (pq.toInt32).toInt = (2 : Int32).toInt from by omega))).trans P5) ?_
   refine o_asw X3 hx hby at_332 (TL x0 x1 x3 x5 x6 M mb bd n1 n2 n3 2 pq aE1 aE2 aE3 aV aN aH (vR aE2) (vI 1) (vR aE2)) ?_
   refine o_aw X3 hx hby at_334 ?_
   refine o_aw X3 hx hby at_336 ?_
   refine o_ac X3 hx hby at_338 341 true (decide_eq_true rfl) ?_
   refine o_ic X3 hx hby 1 at_341 ?_
   refine o_gt X3 hx hby at_342 346 ?_
   exact κ₀ _ _ _ (X3.more (by decide) (by decide)) N3
 · refine o_aw X0 hx hby at_270 ?_
   refine o_lw X0 hx hby at_272 ?_
   have : (1 : Int32).toInt = 1 := (by decide)
   have : (2 : Int64).toInt = 2 := (by decide)
   refine o_cV X0 hx hZ hown hw hml hby (rm89 l Z a0 hw [] aH pq M mb aS aG hd (1 : Int32) by_ (2 : Int64) h0 n0 Z0 P0 (show 0 ≤ (1 : Int32).toInt ∧ (1 : Int32).toInt ≤ (2 : Int64).toInt ∧ (2 : Int64).toInt ≤ 3 from by omega) (show ¬ ((2 : Int64).toInt - (1 : Int32).toInt + 1 ≤ pq.toInt ∧ pq.toInt ≤ (2 : Int64).toInt) from by omega)) (P0.1) e0 107 108 110 109 111 28 0 at_274 [(.long pq)] [] pd_29 hy_9 fun v5 T5 L5 hQ5 X5 => ?_
   obtain ⟨rfl, Nq5, eq5⟩ := hQ5
   have N5 := Fr.app N0 Nq5
   refine oV ?_
   refine o_asw X5 hx hby at_277 (TL x0 x1 x3 x5 x6 M mb bd n1 n2 n3 2 pq aE1 aE2 aE3 aV aN aH (.val .null) .unset .unset) ?_
   refine o_iw X5 hx hby at_279 ?_
   refine o_aw X5 hx hby at_281 ?_
   refine o_iw X5 hx hby at_283 ?_
   refine o_lw X5 hx hby at_285 ?_
   refine o_lw X5 hx hby at_287 ?_
   refine o_cS X5 hx hZ hown hw hml hby (rm99 l Z a0 hw [] aN M mb bd kN n1 n2 n3 h0 n0 Z0 P7 P10 P11 P12 P8 P13 P14 P15) eq5 116 117 118 119 0 at_289 [(.int 2), (.ref aN), (.int M), (.long mb), (.long bd)] [] pd_30 hy_11 fun v6 T6 L6 hQ6 X6 => ?_
   obtain ⟨rfl, Nq6, eq6⟩ := hQ6
   have N6 := Fr.app N5 Nq6
   refine oV ?_
   refine o_isw X6 hx hby at_292 (TL x0 x1 x3 x5 x6 M mb bd n1 n2 n3 2 pq aE1 aE2 aE3 aV aN aH (.val .null) (vI 1) .unset) ?_
   refine o_an X6 hx hby at_294 ?_
   refine o_asw X6 hx hby at_295 (TL x0 x1 x3 x5 x6 M mb bd n1 n2 n3 2 pq aE1 aE2 aE3 aV aN aH (.val .null) (vI 1) (.val .null)) ?_
   refine o_iw X6 hx hby at_297 ?_
   refine o_ic X6 hx hby 1 at_299 ?_
   refine o_cn X6 hx hby at_300 ((flt (by decide)).1) ?_
   refine o_lw X6 hx hby at_303 ?_
   refine o_iw X6 hx hby at_305 ?_
   refine o_iw X6 hx hby at_307 ?_
   refine o_isub X6 hx hby at_309 ?_
   rw [show (((2 : Int32) - (1 : Int32)) : Int32) = (1 : Int32) from by decide]
   refine o_ic X6 hx hby 1 at_310 ?_
   refine o_iadd X6 hx hby at_311 ?_
   rw [show (((1 : Int32) + (1 : Int32)) : Int32) = (2 : Int32) from by decide]
   refine o_i2l X6 hx hby at_312 ?_
   refine o_lcmp X6 hx hby at_313 ?_
   by_cases hc7 : pq < ((2 : Int32).toInt64)
   · refine o_iy X6 hx hby at_314 334 ((if0 _ _).trans (tlt ((lw_lt _ _).mpr hc7)).1) ?_
     refine o_aw X6 hx hby at_334 ?_
     refine o_aw X6 hx hby at_336 ?_
     refine o_ac X6 hx hby at_338 341 true (decide_eq_true rfl) ?_
     refine o_ic X6 hx hby 1 at_341 ?_
     refine o_gt X6 hx hby at_342 346 ?_
     exact κ₀ _ _ _ (X6.more (by decide) (by decide)) N6
   · refine o_in X6 hx hby at_314 ((if0 _ _).trans (flt (fun q => absurd ((lw_lt _ _).mp q) hc7)).1) ?_
     refine o_lw X6 hx hby at_317 ?_
     refine o_iw X6 hx hby at_319 ?_
     refine o_i2l X6 hx hby at_321 ?_
     refine o_lcmp X6 hx hby at_322 ?_
     have := (mt Int64.lt_iff_toInt_lt.mpr hc7)
     have : (2 : Int32).toInt = 2 := (by decide)
     have : ((2 : Int32)).toInt64.toInt = 2 := (by decide)
     refine o_iy X6 hx hby at_323 334 ((if0 _ _).trans (tlt ((lw_gt _ _).mpr (show ((2 : Int32).toInt64) < pq from Int64.lt_iff_toInt_lt.mpr (by omega)))).2.2.1) ?_
     refine o_aw X6 hx hby at_334 ?_
     refine o_aw X6 hx hby at_336 ?_
     refine o_ac X6 hx hby at_338 341 true (decide_eq_true rfl) ?_
     refine o_ic X6 hx hby 1 at_341 ?_
     refine o_gt X6 hx hby at_342 346 ?_
     exact κ₀ _ _ _ (X6.more (by decide) (by decide)) N6
set_option maxRecDepth 65536 in
set_option maxHeartbeats 40000000 in
theorem sg110 (l Z a0) (hw : oW a0 Z) (x0 : Int32) (x1 x3 : Int64) (x5 : Int32) (x6 : Int64) (M : Int32) (mb bd : Int64) (n1 n2 n3 : Int32) (pq : Int64) (aE1 aE2 : Addr) (aE3 aV : Addr) (aN aH : Addr) (aS aG : Addr) (hd : Int32) (by_ : Int64) (f fv : Nat → Value) (kN : ClassId) (h0 : Heap) (n0 : Nat) (Z0 : n0 ≤ h0.size) (P0 : own_Hi Z h0 aH M mb aS aG hd (2 : Int32) by_ (2 : Int64)) (P1 : own_RE Z h0 aG M f) (P2 : f hd.toNatClampNeg = .ref aE1) (P3 : f ((hd + (1 : Int32)) % M).toNatClampNeg = .ref aE2) (P4 : own_RE Z h0 aV (4 : Int32) fv) (P5 : fv (1 : Int32).toNatClampNeg = .ref aE1) (P6 : fv (2 : Int32).toNatClampNeg = .ref aE2) (P7 : fv (3 : Int32).toNatClampNeg = .ref aE3) (P8 : Arv Z h0 aN kN .int (4 : Int32) [(.int 0), (.int n1), (.int n2), (.int n3)] (.int 0)) (P9 : 0 ≤ M.toInt ∧ M.toInt ≤ 7) (P10 : 0 ≤ hd.toInt ∧ hd.toInt < M.toInt) (P11 : 0 ≤ n1.toInt ∧ n1.toInt ≤ 7) (P12 : 0 ≤ n2.toInt ∧ n2.toInt ≤ 7) (P13 : 0 ≤ n3.toInt ∧ n3.toInt ≤ 7) (P14 : 0 ≤ mb.toInt) (P15 : (2 ≤ M.toInt ∧ n1.toInt + n2.toInt ≤ mb.toInt ∧ n1.toInt + n2.toInt + 256 ≤ bd.toInt))
   (hx : p.tables.exec = Jvm.exec) (hby : c.code = code) (hml : c.maxLocals = 28) (hZ : Z.Warmed39 s.vm) (hown : s.vm.findClass "com/example/lockstep/lockstep/session/HistoryGetPinLaw" = some m.cls)
   (X0 : Stand p l e room_1 s m #[(.int x0), (.long x1), (.long x3), (.int x5), (.long x6)] below meth c s₁ locs 36 230) (e0 : s₁.heap = h0) (N0 : Fr n0 locs)
   (κ₀ : ∀ (T' : State) (L' : List Loc) (Ls : Array Slot), Stand p l e room_1 s m #[(.int x0), (.long x1), (.long x3), (.int x5), (.long x6)] below meth c T' L' 40 256 → Fr n0 L' → oG p e below F₀ (T'.setTop (mkF m 346 Ls [(.int 1)]))) :
   oG p e below F₀ (s₁.setTop (mkF m 270 (TL x0 x1 x3 x5 x6 M mb bd n1 n2 n3 2 pq aE1 aE2 aE3 aV aN aH .unset .unset .unset) [])) := by
 by_cases hc1 : pq.toInt = 1
 · refine o_aw X0 hx hby at_270 ?_
   refine o_lw X0 hx hby at_272 ?_
   have : (2 : Int32).toInt = 2 := (by decide)
   have : (2 : Int64).toInt = 2 := (by decide)
   refine o_cV X0 hx hZ hown hw hml hby (rm90 l Z a0 hw [] aH pq M mb aS aG hd (2 : Int32) by_ (2 : Int64) f aE1 h0 n0 Z0 P0 P1 P2 P9 P10 (show 0 ≤ (2 : Int32).toInt ∧ (2 : Int32).toInt ≤ (2 : Int64).toInt ∧ (2 : Int64).toInt ≤ 3 from by omega) (show 0 < (2 : Int32).toInt from by omega) (show pq.toInt = (2 : Int64).toInt - (2 : Int32).toInt + 1 from by omega)) (P0.1) e0 107 108 110 109 111 28 0 at_274 [(.long pq)] [] pd_29 hy_9 fun v2 T2 L2 hQ2 X2 => ?_
   obtain ⟨rfl, Nq2, eq2⟩ := hQ2
   have N2 := Fr.app N0 Nq2
   refine oV ?_
   refine o_asw X2 hx hby at_277 (TL x0 x1 x3 x5 x6 M mb bd n1 n2 n3 2 pq aE1 aE2 aE3 aV aN aH (vR aE1) .unset .unset) ?_
   refine o_iw X2 hx hby at_279 ?_
   refine o_aw X2 hx hby at_281 ?_
   refine o_iw X2 hx hby at_283 ?_
   refine o_lw X2 hx hby at_285 ?_
   refine o_lw X2 hx hby at_287 ?_
   refine o_cS X2 hx hZ hown hw hml hby (rm100 l Z a0 hw [] aN M mb bd kN n1 n2 n3 h0 n0 Z0 P8 P11 P12 P13 P9 P14 P15) eq2 116 117 118 119 0 at_289 [(.int 2), (.ref aN), (.int M), (.long mb), (.long bd)] [] pd_30 hy_11 fun v3 T3 L3 hQ3 X3 => ?_
   obtain ⟨rfl, Nq3, eq3⟩ := hQ3
   have N3 := Fr.app N2 Nq3
   refine oV ?_
   refine o_isw X3 hx hby at_292 (TL x0 x1 x3 x5 x6 M mb bd n1 n2 n3 2 pq aE1 aE2 aE3 aV aN aH (vR aE1) (vI 2) .unset) ?_
   refine o_an X3 hx hby at_294 ?_
   refine o_asw X3 hx hby at_295 (TL x0 x1 x3 x5 x6 M mb bd n1 n2 n3 2 pq aE1 aE2 aE3 aV aN aH (vR aE1) (vI 2) (.val .null)) ?_
   refine o_iw X3 hx hby at_297 ?_
   refine o_ic X3 hx hby 1 at_299 ?_
   refine o_cn X3 hx hby at_300 ((flt (by decide)).1) ?_
   refine o_lw X3 hx hby at_303 ?_
   refine o_iw X3 hx hby at_305 ?_
   refine o_iw X3 hx hby at_307 ?_
   refine o_isub X3 hx hby at_309 ?_
   rw [show (((2 : Int32) - (2 : Int32)) : Int32) = (0 : Int32) from by decide]
   refine o_ic X3 hx hby 1 at_310 ?_
   refine o_iadd X3 hx hby at_311 ?_
   rw [show (((0 : Int32) + (1 : Int32)) : Int32) = (1 : Int32) from by decide]
   refine o_i2l X3 hx hby at_312 ?_
   refine o_lcmp X3 hx hby at_313 ?_
   have : (1 : Int32).toInt = 1 := (by decide)
   have : ((1 : Int32)).toInt64.toInt = 1 := (by decide)
   refine o_in X3 hx hby at_314 ((if0 _ _).trans (flt (fun q => absurd ((lw_lt _ _).mp q) (show ¬ (pq < ((1 : Int32).toInt64)) from mt Int64.lt_iff_toInt_lt.mp (by omega)))).1) ?_
   refine o_lw X3 hx hby at_317 ?_
   refine o_iw X3 hx hby at_319 ?_
   refine o_i2l X3 hx hby at_321 ?_
   refine o_lcmp X3 hx hby at_322 ?_
   have : ((2 : Int32)).toInt64.toInt = 2 := (by decide)
   refine o_in X3 hx hby at_323 ((if0 _ _).trans (flt (fun q => absurd ((lw_gt _ _).mp q) (show ¬ (((2 : Int32).toInt64) < pq) from mt Int64.lt_iff_toInt_lt.mp (by omega)))).2.2.1) ?_
   refine o_aw X3 hx hby at_326 ?_
   refine o_lw X3 hx hby at_328 ?_
   refine o_l2i X3 hx hby at_330 ?_
   have := And.intro (c_l2i pq) (rng32 (pq).toInt32)
   have : (0 : Int32).toInt = 0 := (by decide)
   have : (4 : Int32).toInt = 4 := (by decide)
   refine o_aa (v := (.ref aE1)) X3 hx hZ hby eq3 P4 at_331 ⟨(show ¬ ((pq.toInt32) < (0 : Int32)) from mt Int32.lt_iff_toInt_lt.mp (by omega)), (show (pq.toInt32) < (4 : Int32) from Int32.lt_iff_toInt_lt.mpr (by omega))⟩ ((congrArg fv (own_eqp (show (pq.toInt32).toInt = (1 : Int32).toInt from by omega))).trans P5) ?_
   refine o_asw X3 hx hby at_332 (TL x0 x1 x3 x5 x6 M mb bd n1 n2 n3 2 pq aE1 aE2 aE3 aV aN aH (vR aE1) (vI 2) (vR aE1)) ?_
   refine o_aw X3 hx hby at_334 ?_
   refine o_aw X3 hx hby at_336 ?_
   refine o_ac X3 hx hby at_338 341 true (decide_eq_true rfl) ?_
   refine o_ic X3 hx hby 1 at_341 ?_
   refine o_gt X3 hx hby at_342 346 ?_
   exact κ₀ _ _ _ (X3.more (by decide) (by decide)) N3
 · by_cases hc5 : pq.toInt = 2
   · refine o_aw X0 hx hby at_270 ?_
     refine o_lw X0 hx hby at_272 ?_
     have : (2 : Int32).toInt = 2 := (by decide)
     have : (2 : Int64).toInt = 2 := (by decide)
     refine o_cV X0 hx hZ hown hw hml hby (rm91 l Z a0 hw [] aH pq M mb aS aG hd (2 : Int32) by_ (2 : Int64) f aE2 h0 n0 Z0 P0 P1 P3 P9 P10 (show 0 ≤ (2 : Int32).toInt ∧ (2 : Int32).toInt ≤ (2 : Int64).toInt ∧ (2 : Int64).toInt ≤ 3 from by omega) (show 1 < (2 : Int32).toInt from by omega) (show pq.toInt = (2 : Int64).toInt - (2 : Int32).toInt + 2 from by omega)) (P0.1) e0 107 108 110 109 111 28 0 at_274 [(.long pq)] [] pd_29 hy_9 fun v6 T6 L6 hQ6 X6 => ?_
     obtain ⟨rfl, Nq6, eq6⟩ := hQ6
     have N6 := Fr.app N0 Nq6
     refine oV ?_
     refine o_asw X6 hx hby at_277 (TL x0 x1 x3 x5 x6 M mb bd n1 n2 n3 2 pq aE1 aE2 aE3 aV aN aH (vR aE2) .unset .unset) ?_
     refine o_iw X6 hx hby at_279 ?_
     refine o_aw X6 hx hby at_281 ?_
     refine o_iw X6 hx hby at_283 ?_
     refine o_lw X6 hx hby at_285 ?_
     refine o_lw X6 hx hby at_287 ?_
     refine o_cS X6 hx hZ hown hw hml hby (rm100 l Z a0 hw [] aN M mb bd kN n1 n2 n3 h0 n0 Z0 P8 P11 P12 P13 P9 P14 P15) eq6 116 117 118 119 0 at_289 [(.int 2), (.ref aN), (.int M), (.long mb), (.long bd)] [] pd_30 hy_11 fun v7 T7 L7 hQ7 X7 => ?_
     obtain ⟨rfl, Nq7, eq7⟩ := hQ7
     have N7 := Fr.app N6 Nq7
     refine oV ?_
     refine o_isw X7 hx hby at_292 (TL x0 x1 x3 x5 x6 M mb bd n1 n2 n3 2 pq aE1 aE2 aE3 aV aN aH (vR aE2) (vI 2) .unset) ?_
     refine o_an X7 hx hby at_294 ?_
     refine o_asw X7 hx hby at_295 (TL x0 x1 x3 x5 x6 M mb bd n1 n2 n3 2 pq aE1 aE2 aE3 aV aN aH (vR aE2) (vI 2) (.val .null)) ?_
     refine o_iw X7 hx hby at_297 ?_
     refine o_ic X7 hx hby 1 at_299 ?_
     refine o_cn X7 hx hby at_300 ((flt (by decide)).1) ?_
     refine o_lw X7 hx hby at_303 ?_
     refine o_iw X7 hx hby at_305 ?_
     refine o_iw X7 hx hby at_307 ?_
     refine o_isub X7 hx hby at_309 ?_
     rw [show (((2 : Int32) - (2 : Int32)) : Int32) = (0 : Int32) from by decide]
     refine o_ic X7 hx hby 1 at_310 ?_
     refine o_iadd X7 hx hby at_311 ?_
     rw [show (((0 : Int32) + (1 : Int32)) : Int32) = (1 : Int32) from by decide]
     refine o_i2l X7 hx hby at_312 ?_
     refine o_lcmp X7 hx hby at_313 ?_
     have : (1 : Int32).toInt = 1 := (by decide)
     have : ((1 : Int32)).toInt64.toInt = 1 := (by decide)
     refine o_in X7 hx hby at_314 ((if0 _ _).trans (flt (fun q => absurd ((lw_lt _ _).mp q) (show ¬ (pq < ((1 : Int32).toInt64)) from mt Int64.lt_iff_toInt_lt.mp (by omega)))).1) ?_
     refine o_lw X7 hx hby at_317 ?_
     refine o_iw X7 hx hby at_319 ?_
     refine o_i2l X7 hx hby at_321 ?_
     refine o_lcmp X7 hx hby at_322 ?_
     have : ((2 : Int32)).toInt64.toInt = 2 := (by decide)
     refine o_in X7 hx hby at_323 ((if0 _ _).trans (flt (fun q => absurd ((lw_gt _ _).mp q) (show ¬ (((2 : Int32).toInt64) < pq) from mt Int64.lt_iff_toInt_lt.mp (by omega)))).2.2.1) ?_
     refine o_aw X7 hx hby at_326 ?_
     refine o_lw X7 hx hby at_328 ?_
     refine o_l2i X7 hx hby at_330 ?_
     have := And.intro (c_l2i pq) (rng32 (pq).toInt32)
     have : (0 : Int32).toInt = 0 := (by decide)
     have : (4 : Int32).toInt = 4 := (by decide)
     refine o_aa (v := (.ref aE2)) X7 hx hZ hby eq7 P4 at_331 ⟨(show ¬ ((pq.toInt32) < (0 : Int32)) from mt Int32.lt_iff_toInt_lt.mp (by omega)), (show (pq.toInt32) < (4 : Int32) from Int32.lt_iff_toInt_lt.mpr (by omega))⟩ ((congrArg fv (own_eqp (show (pq.toInt32).toInt = (2 : Int32).toInt from by omega))).trans P6) ?_
     refine o_asw X7 hx hby at_332 (TL x0 x1 x3 x5 x6 M mb bd n1 n2 n3 2 pq aE1 aE2 aE3 aV aN aH (vR aE2) (vI 2) (vR aE2)) ?_
     refine o_aw X7 hx hby at_334 ?_
     refine o_aw X7 hx hby at_336 ?_
     refine o_ac X7 hx hby at_338 341 true (decide_eq_true rfl) ?_
     refine o_ic X7 hx hby 1 at_341 ?_
     refine o_gt X7 hx hby at_342 346 ?_
     exact κ₀ _ _ _ (X7.more (by decide) (by decide)) N7
   · refine o_aw X0 hx hby at_270 ?_
     refine o_lw X0 hx hby at_272 ?_
     have : (2 : Int32).toInt = 2 := (by decide)
     have : (2 : Int64).toInt = 2 := (by decide)
     refine o_cV X0 hx hZ hown hw hml hby (rm89 l Z a0 hw [] aH pq M mb aS aG hd (2 : Int32) by_ (2 : Int64) h0 n0 Z0 P0 (show 0 ≤ (2 : Int32).toInt ∧ (2 : Int32).toInt ≤ (2 : Int64).toInt ∧ (2 : Int64).toInt ≤ 3 from by omega) (show ¬ ((2 : Int64).toInt - (2 : Int32).toInt + 1 ≤ pq.toInt ∧ pq.toInt ≤ (2 : Int64).toInt) from by omega)) (P0.1) e0 107 108 110 109 111 28 0 at_274 [(.long pq)] [] pd_29 hy_9 fun v9 T9 L9 hQ9 X9 => ?_
     obtain ⟨rfl, Nq9, eq9⟩ := hQ9
     have N9 := Fr.app N0 Nq9
     refine oV ?_
     refine o_asw X9 hx hby at_277 (TL x0 x1 x3 x5 x6 M mb bd n1 n2 n3 2 pq aE1 aE2 aE3 aV aN aH (.val .null) .unset .unset) ?_
     refine o_iw X9 hx hby at_279 ?_
     refine o_aw X9 hx hby at_281 ?_
     refine o_iw X9 hx hby at_283 ?_
     refine o_lw X9 hx hby at_285 ?_
     refine o_lw X9 hx hby at_287 ?_
     refine o_cS X9 hx hZ hown hw hml hby (rm100 l Z a0 hw [] aN M mb bd kN n1 n2 n3 h0 n0 Z0 P8 P11 P12 P13 P9 P14 P15) eq9 116 117 118 119 0 at_289 [(.int 2), (.ref aN), (.int M), (.long mb), (.long bd)] [] pd_30 hy_11 fun v10 T10 L10 hQ10 X10 => ?_
     obtain ⟨rfl, Nq10, eq10⟩ := hQ10
     have N10 := Fr.app N9 Nq10
     refine oV ?_
     refine o_isw X10 hx hby at_292 (TL x0 x1 x3 x5 x6 M mb bd n1 n2 n3 2 pq aE1 aE2 aE3 aV aN aH (.val .null) (vI 2) .unset) ?_
     refine o_an X10 hx hby at_294 ?_
     refine o_asw X10 hx hby at_295 (TL x0 x1 x3 x5 x6 M mb bd n1 n2 n3 2 pq aE1 aE2 aE3 aV aN aH (.val .null) (vI 2) (.val .null)) ?_
     refine o_iw X10 hx hby at_297 ?_
     refine o_ic X10 hx hby 1 at_299 ?_
     refine o_cn X10 hx hby at_300 ((flt (by decide)).1) ?_
     refine o_lw X10 hx hby at_303 ?_
     refine o_iw X10 hx hby at_305 ?_
     refine o_iw X10 hx hby at_307 ?_
     refine o_isub X10 hx hby at_309 ?_
     rw [show (((2 : Int32) - (2 : Int32)) : Int32) = (0 : Int32) from by decide]
     refine o_ic X10 hx hby 1 at_310 ?_
     refine o_iadd X10 hx hby at_311 ?_
     rw [show (((0 : Int32) + (1 : Int32)) : Int32) = (1 : Int32) from by decide]
     refine o_i2l X10 hx hby at_312 ?_
     refine o_lcmp X10 hx hby at_313 ?_
     by_cases hc11 : pq < ((1 : Int32).toInt64)
     · refine o_iy X10 hx hby at_314 334 ((if0 _ _).trans (tlt ((lw_lt _ _).mpr hc11)).1) ?_
       refine o_aw X10 hx hby at_334 ?_
       refine o_aw X10 hx hby at_336 ?_
       refine o_ac X10 hx hby at_338 341 true (decide_eq_true rfl) ?_
       refine o_ic X10 hx hby 1 at_341 ?_
       refine o_gt X10 hx hby at_342 346 ?_
       exact κ₀ _ _ _ (X10.more (by decide) (by decide)) N10
     · refine o_in X10 hx hby at_314 ((if0 _ _).trans (flt (fun q => absurd ((lw_lt _ _).mp q) hc11)).1) ?_
       refine o_lw X10 hx hby at_317 ?_
       refine o_iw X10 hx hby at_319 ?_
       refine o_i2l X10 hx hby at_321 ?_
       refine o_lcmp X10 hx hby at_322 ?_
       have := (mt Int64.lt_iff_toInt_lt.mpr hc11)
       have : (1 : Int32).toInt = 1 := (by decide)
       have : ((1 : Int32)).toInt64.toInt = 1 := (by decide)
       have : ((2 : Int32)).toInt64.toInt = 2 := (by decide)
       refine o_iy X10 hx hby at_323 334 ((if0 _ _).trans (tlt ((lw_gt _ _).mpr (show ((2 : Int32).toInt64) < pq from Int64.lt_iff_toInt_lt.mpr (by omega)))).2.2.1) ?_
       refine o_aw X10 hx hby at_334 ?_
       refine o_aw X10 hx hby at_336 ?_
       refine o_ac X10 hx hby at_338 341 true (decide_eq_true rfl) ?_
       refine o_ic X10 hx hby 1 at_341 ?_
       refine o_gt X10 hx hby at_342 346 ?_
       exact κ₀ _ _ _ (X10.more (by decide) (by decide)) N10
set_option maxRecDepth 65536 in
set_option maxHeartbeats 40000000 in
theorem sg111 (l Z a0) (hw : oW a0 Z) (x0 : Int32) (x1 x3 : Int64) (x5 : Int32) (x6 : Int64) (M : Int32) (mb bd : Int64) (n1 n2 n3 : Int32) (pq : Int64) (aE1 aE2 : Addr) (aE3 aV : Addr) (aN aH : Addr) (aS aG : Addr) (hd : Int32) (by_ : Int64) (fv : Nat → Value) (kN : ClassId) (h0 : Heap) (n0 : Nat) (Z0 : n0 ≤ h0.size) (P0 : own_Hi Z h0 aH M mb aS aG hd (0 : Int32) by_ (3 : Int64)) (P1 : own_RE Z h0 aV (4 : Int32) fv) (P2 : fv (1 : Int32).toNatClampNeg = .ref aE1) (P3 : fv (2 : Int32).toNatClampNeg = .ref aE2) (P4 : fv (3 : Int32).toNatClampNeg = .ref aE3) (P5 : Arv Z h0 aN kN .int (4 : Int32) [(.int 0), (.int n1), (.int n2), (.int n3)] (.int 0)) (P6 : 0 ≤ M.toInt ∧ M.toInt ≤ 7) (P7 : 0 ≤ n1.toInt ∧ n1.toInt ≤ 7) (P8 : 0 ≤ n2.toInt ∧ n2.toInt ≤ 7) (P9 : 0 ≤ n3.toInt ∧ n3.toInt ≤ 7) (P10 : 0 ≤ mb.toInt) (P11 : ¬ (1 ≤ M.toInt ∧ n3.toInt ≤ mb.toInt ∧ n3.toInt + 128 ≤ bd.toInt))
   (hx : p.tables.exec = Jvm.exec) (hby : c.code = code) (hml : c.maxLocals = 28) (hZ : Z.Warmed39 s.vm) (hown : s.vm.findClass "com/example/lockstep/lockstep/session/HistoryGetPinLaw" = some m.cls)
   (X0 : Stand p l e room_1 s m #[(.int x0), (.long x1), (.long x3), (.int x5), (.long x6)] below meth c s₁ locs 36 230) (e0 : s₁.heap = h0) (N0 : Fr n0 locs)
   (κ₀ : ∀ (T' : State) (L' : List Loc) (Ls : Array Slot), Stand p l e room_1 s m #[(.int x0), (.long x1), (.long x3), (.int x5), (.long x6)] below meth c T' L' 40 256 → Fr n0 L' → oG p e below F₀ (T'.setTop (mkF m 346 Ls [(.int 1)]))) :
   oG p e below F₀ (s₁.setTop (mkF m 270 (TL x0 x1 x3 x5 x6 M mb bd n1 n2 n3 3 pq aE1 aE2 aE3 aV aN aH .unset .unset .unset) [])) := by
 refine o_aw X0 hx hby at_270 ?_
 refine o_lw X0 hx hby at_272 ?_
 have : (0 : Int32).toInt = 0 := (by decide)
 have : (3 : Int64).toInt = 3 := (by decide)
 refine o_cV X0 hx hZ hown hw hml hby (rm89 l Z a0 hw [] aH pq M mb aS aG hd (0 : Int32) by_ (3 : Int64) h0 n0 Z0 P0 (show 0 ≤ (0 : Int32).toInt ∧ (0 : Int32).toInt ≤ (3 : Int64).toInt ∧ (3 : Int64).toInt ≤ 3 from by omega) (show ¬ ((3 : Int64).toInt - (0 : Int32).toInt + 1 ≤ pq.toInt ∧ pq.toInt ≤ (3 : Int64).toInt) from by omega)) (P0.1) e0 107 108 110 109 111 28 0 at_274 [(.long pq)] [] pd_29 hy_9 fun v1 T1 L1 hQ1 X1 => ?_
 obtain ⟨rfl, Nq1, eq1⟩ := hQ1
 have N1 := Fr.app N0 Nq1
 refine oV ?_
 refine o_asw X1 hx hby at_277 (TL x0 x1 x3 x5 x6 M mb bd n1 n2 n3 3 pq aE1 aE2 aE3 aV aN aH (.val .null) .unset .unset) ?_
 refine o_iw X1 hx hby at_279 ?_
 refine o_aw X1 hx hby at_281 ?_
 refine o_iw X1 hx hby at_283 ?_
 refine o_lw X1 hx hby at_285 ?_
 refine o_lw X1 hx hby at_287 ?_
 refine o_cS X1 hx hZ hown hw hml hby (rm101 l Z a0 hw [] aN M mb bd kN n1 n2 n3 h0 n0 Z0 P5 P7 P8 P9 P6 P10 P11) eq1 116 117 118 119 0 at_289 [(.int 3), (.ref aN), (.int M), (.long mb), (.long bd)] [] pd_30 hy_11 fun v2 T2 L2 hQ2 X2 => ?_
 obtain ⟨rfl, Nq2, eq2⟩ := hQ2
 have N2 := Fr.app N1 Nq2
 refine oV ?_
 refine o_isw X2 hx hby at_292 (TL x0 x1 x3 x5 x6 M mb bd n1 n2 n3 3 pq aE1 aE2 aE3 aV aN aH (.val .null) (vI 0) .unset) ?_
 refine o_an X2 hx hby at_294 ?_
 refine o_asw X2 hx hby at_295 (TL x0 x1 x3 x5 x6 M mb bd n1 n2 n3 3 pq aE1 aE2 aE3 aV aN aH (.val .null) (vI 0) (.val .null)) ?_
 refine o_iw X2 hx hby at_297 ?_
 refine o_ic X2 hx hby 1 at_299 ?_
 refine o_cy X2 hx hby at_300 334 ((tlt (by decide)).1) ?_
 refine o_aw X2 hx hby at_334 ?_
 refine o_aw X2 hx hby at_336 ?_
 refine o_ac X2 hx hby at_338 341 true (decide_eq_true rfl) ?_
 refine o_ic X2 hx hby 1 at_341 ?_
 refine o_gt X2 hx hby at_342 346 ?_
 exact κ₀ _ _ _ (X2.more (by decide) (by decide)) N2
set_option maxRecDepth 65536 in
set_option maxHeartbeats 40000000 in
theorem sg112 (l Z a0) (hw : oW a0 Z) (x0 : Int32) (x1 x3 : Int64) (x5 : Int32) (x6 : Int64) (M : Int32) (mb bd : Int64) (n1 n2 n3 : Int32) (pq : Int64) (aE1 aE2 : Addr) (aE3 aV : Addr) (aN aH : Addr) (aS aG : Addr) (hd : Int32) (by_ : Int64) (f fv : Nat → Value) (kN : ClassId) (h0 : Heap) (n0 : Nat) (Z0 : n0 ≤ h0.size) (P0 : own_Hi Z h0 aH M mb aS aG hd (1 : Int32) by_ (3 : Int64)) (P1 : own_RE Z h0 aG M f) (P2 : f hd.toNatClampNeg = .ref aE3) (P3 : own_RE Z h0 aV (4 : Int32) fv) (P4 : fv (1 : Int32).toNatClampNeg = .ref aE1) (P5 : fv (2 : Int32).toNatClampNeg = .ref aE2) (P6 : fv (3 : Int32).toNatClampNeg = .ref aE3) (P7 : Arv Z h0 aN kN .int (4 : Int32) [(.int 0), (.int n1), (.int n2), (.int n3)] (.int 0)) (P8 : 0 ≤ M.toInt ∧ M.toInt ≤ 7) (P9 : 0 ≤ hd.toInt ∧ hd.toInt < M.toInt) (P10 : 0 ≤ n1.toInt ∧ n1.toInt ≤ 7) (P11 : 0 ≤ n2.toInt ∧ n2.toInt ≤ 7) (P12 : 0 ≤ n3.toInt ∧ n3.toInt ≤ 7) (P13 : 0 ≤ mb.toInt) (P14 : (1 ≤ M.toInt ∧ n3.toInt ≤ mb.toInt ∧ n3.toInt + 128 ≤ bd.toInt)) (P15 : ¬ (2 ≤ M.toInt ∧ n2.toInt + n3.toInt ≤ mb.toInt ∧ n2.toInt + n3.toInt + 256 ≤ bd.toInt))
   (hx : p.tables.exec = Jvm.exec) (hby : c.code = code) (hml : c.maxLocals = 28) (hZ : Z.Warmed39 s.vm) (hown : s.vm.findClass "com/example/lockstep/lockstep/session/HistoryGetPinLaw" = some m.cls)
   (X0 : Stand p l e room_1 s m #[(.int x0), (.long x1), (.long x3), (.int x5), (.long x6)] below meth c s₁ locs 36 230) (e0 : s₁.heap = h0) (N0 : Fr n0 locs)
   (κ₀ : ∀ (T' : State) (L' : List Loc) (Ls : Array Slot), Stand p l e room_1 s m #[(.int x0), (.long x1), (.long x3), (.int x5), (.long x6)] below meth c T' L' 40 256 → Fr n0 L' → oG p e below F₀ (T'.setTop (mkF m 346 Ls [(.int 1)]))) :
   oG p e below F₀ (s₁.setTop (mkF m 270 (TL x0 x1 x3 x5 x6 M mb bd n1 n2 n3 3 pq aE1 aE2 aE3 aV aN aH .unset .unset .unset) [])) := by
 by_cases hc1 : pq.toInt = 3
 · refine o_aw X0 hx hby at_270 ?_
   refine o_lw X0 hx hby at_272 ?_
   have : (1 : Int32).toInt = 1 := (by decide)
   have : (3 : Int64).toInt = 3 := (by decide)
   refine o_cV X0 hx hZ hown hw hml hby (rm90 l Z a0 hw [] aH pq M mb aS aG hd (1 : Int32) by_ (3 : Int64) f aE3 h0 n0 Z0 P0 P1 P2 P8 P9 (show 0 ≤ (1 : Int32).toInt ∧ (1 : Int32).toInt ≤ (3 : Int64).toInt ∧ (3 : Int64).toInt ≤ 3 from by omega) (show 0 < (1 : Int32).toInt from by omega) (show pq.toInt = (3 : Int64).toInt - (1 : Int32).toInt + 1 from by omega)) (P0.1) e0 107 108 110 109 111 28 0 at_274 [(.long pq)] [] pd_29 hy_9 fun v2 T2 L2 hQ2 X2 => ?_
   obtain ⟨rfl, Nq2, eq2⟩ := hQ2
   have N2 := Fr.app N0 Nq2
   refine oV ?_
   refine o_asw X2 hx hby at_277 (TL x0 x1 x3 x5 x6 M mb bd n1 n2 n3 3 pq aE1 aE2 aE3 aV aN aH (vR aE3) .unset .unset) ?_
   refine o_iw X2 hx hby at_279 ?_
   refine o_aw X2 hx hby at_281 ?_
   refine o_iw X2 hx hby at_283 ?_
   refine o_lw X2 hx hby at_285 ?_
   refine o_lw X2 hx hby at_287 ?_
   refine o_cS X2 hx hZ hown hw hml hby (rm102 l Z a0 hw [] aN M mb bd kN n1 n2 n3 h0 n0 Z0 P7 P10 P11 P12 P8 P13 P14 P15) eq2 116 117 118 119 0 at_289 [(.int 3), (.ref aN), (.int M), (.long mb), (.long bd)] [] pd_30 hy_11 fun v3 T3 L3 hQ3 X3 => ?_
   obtain ⟨rfl, Nq3, eq3⟩ := hQ3
   have N3 := Fr.app N2 Nq3
   refine oV ?_
   refine o_isw X3 hx hby at_292 (TL x0 x1 x3 x5 x6 M mb bd n1 n2 n3 3 pq aE1 aE2 aE3 aV aN aH (vR aE3) (vI 1) .unset) ?_
   refine o_an X3 hx hby at_294 ?_
   refine o_asw X3 hx hby at_295 (TL x0 x1 x3 x5 x6 M mb bd n1 n2 n3 3 pq aE1 aE2 aE3 aV aN aH (vR aE3) (vI 1) (.val .null)) ?_
   refine o_iw X3 hx hby at_297 ?_
   refine o_ic X3 hx hby 1 at_299 ?_
   refine o_cn X3 hx hby at_300 ((flt (by decide)).1) ?_
   refine o_lw X3 hx hby at_303 ?_
   refine o_iw X3 hx hby at_305 ?_
   refine o_iw X3 hx hby at_307 ?_
   refine o_isub X3 hx hby at_309 ?_
   rw [show (((3 : Int32) - (1 : Int32)) : Int32) = (2 : Int32) from by decide]
   refine o_ic X3 hx hby 1 at_310 ?_
   refine o_iadd X3 hx hby at_311 ?_
   rw [show (((2 : Int32) + (1 : Int32)) : Int32) = (3 : Int32) from by decide]
   refine o_i2l X3 hx hby at_312 ?_
   refine o_lcmp X3 hx hby at_313 ?_
   have : (3 : Int32).toInt = 3 := (by decide)
   have : ((3 : Int32)).toInt64.toInt = 3 := (by decide)
   refine o_in X3 hx hby at_314 ((if0 _ _).trans (flt (fun q => absurd ((lw_lt _ _).mp q) (show ¬ (pq < ((3 : Int32).toInt64)) from mt Int64.lt_iff_toInt_lt.mp (by omega)))).1) ?_
   refine o_lw X3 hx hby at_317 ?_
   refine o_iw X3 hx hby at_319 ?_
   refine o_i2l X3 hx hby at_321 ?_
   refine o_lcmp X3 hx hby at_322 ?_
   refine o_in X3 hx hby at_323 ((if0 _ _).trans (flt (fun q => absurd ((lw_gt _ _).mp q) (show ¬ (((3 : Int32).toInt64) < pq) from mt Int64.lt_iff_toInt_lt.mp (by omega)))).2.2.1) ?_
   refine o_aw X3 hx hby at_326 ?_
   refine o_lw X3 hx hby at_328 ?_
   refine o_l2i X3 hx hby at_330 ?_
   have := And.intro (c_l2i pq) (rng32 (pq).toInt32)
   have : (0 : Int32).toInt = 0 := (by decide)
   have : (4 : Int32).toInt = 4 := (by decide)
   refine o_aa (v := (.ref aE3)) X3 hx hZ hby eq3 P3 at_331 ⟨(show ¬ ((pq.toInt32) < (0 : Int32)) from mt Int32.lt_iff_toInt_lt.mp (by omega)), (show (pq.toInt32) < (4 : Int32) from Int32.lt_iff_toInt_lt.mpr (by omega))⟩ ((congrArg fv (own_eqp (show (pq.toInt32).toInt = (3 : Int32).toInt from by omega))).trans P6) ?_
   refine o_asw X3 hx hby at_332 (TL x0 x1 x3 x5 x6 M mb bd n1 n2 n3 3 pq aE1 aE2 aE3 aV aN aH (vR aE3) (vI 1) (vR aE3)) ?_
   refine o_aw X3 hx hby at_334 ?_
   refine o_aw X3 hx hby at_336 ?_
   refine o_ac X3 hx hby at_338 341 true (decide_eq_true rfl) ?_
   refine o_ic X3 hx hby 1 at_341 ?_
   refine o_gt X3 hx hby at_342 346 ?_
   exact κ₀ _ _ _ (X3.more (by decide) (by decide)) N3
 · refine o_aw X0 hx hby at_270 ?_
   refine o_lw X0 hx hby at_272 ?_
   have : (1 : Int32).toInt = 1 := (by decide)
   have : (3 : Int64).toInt = 3 := (by decide)
   refine o_cV X0 hx hZ hown hw hml hby (rm89 l Z a0 hw [] aH pq M mb aS aG hd (1 : Int32) by_ (3 : Int64) h0 n0 Z0 P0 (show 0 ≤ (1 : Int32).toInt ∧ (1 : Int32).toInt ≤ (3 : Int64).toInt ∧ (3 : Int64).toInt ≤ 3 from by omega) (show ¬ ((3 : Int64).toInt - (1 : Int32).toInt + 1 ≤ pq.toInt ∧ pq.toInt ≤ (3 : Int64).toInt) from by omega)) (P0.1) e0 107 108 110 109 111 28 0 at_274 [(.long pq)] [] pd_29 hy_9 fun v5 T5 L5 hQ5 X5 => ?_
   obtain ⟨rfl, Nq5, eq5⟩ := hQ5
   have N5 := Fr.app N0 Nq5
   refine oV ?_
   refine o_asw X5 hx hby at_277 (TL x0 x1 x3 x5 x6 M mb bd n1 n2 n3 3 pq aE1 aE2 aE3 aV aN aH (.val .null) .unset .unset) ?_
   refine o_iw X5 hx hby at_279 ?_
   refine o_aw X5 hx hby at_281 ?_
   refine o_iw X5 hx hby at_283 ?_
   refine o_lw X5 hx hby at_285 ?_
   refine o_lw X5 hx hby at_287 ?_
   refine o_cS X5 hx hZ hown hw hml hby (rm102 l Z a0 hw [] aN M mb bd kN n1 n2 n3 h0 n0 Z0 P7 P10 P11 P12 P8 P13 P14 P15) eq5 116 117 118 119 0 at_289 [(.int 3), (.ref aN), (.int M), (.long mb), (.long bd)] [] pd_30 hy_11 fun v6 T6 L6 hQ6 X6 => ?_
   obtain ⟨rfl, Nq6, eq6⟩ := hQ6
   have N6 := Fr.app N5 Nq6
   refine oV ?_
   refine o_isw X6 hx hby at_292 (TL x0 x1 x3 x5 x6 M mb bd n1 n2 n3 3 pq aE1 aE2 aE3 aV aN aH (.val .null) (vI 1) .unset) ?_
   refine o_an X6 hx hby at_294 ?_
   refine o_asw X6 hx hby at_295 (TL x0 x1 x3 x5 x6 M mb bd n1 n2 n3 3 pq aE1 aE2 aE3 aV aN aH (.val .null) (vI 1) (.val .null)) ?_
   refine o_iw X6 hx hby at_297 ?_
   refine o_ic X6 hx hby 1 at_299 ?_
   refine o_cn X6 hx hby at_300 ((flt (by decide)).1) ?_
   refine o_lw X6 hx hby at_303 ?_
   refine o_iw X6 hx hby at_305 ?_
   refine o_iw X6 hx hby at_307 ?_
   refine o_isub X6 hx hby at_309 ?_
   rw [show (((3 : Int32) - (1 : Int32)) : Int32) = (2 : Int32) from by decide]
   refine o_ic X6 hx hby 1 at_310 ?_
   refine o_iadd X6 hx hby at_311 ?_
   rw [show (((2 : Int32) + (1 : Int32)) : Int32) = (3 : Int32) from by decide]
   refine o_i2l X6 hx hby at_312 ?_
   refine o_lcmp X6 hx hby at_313 ?_
   by_cases hc7 : pq < ((3 : Int32).toInt64)
   · refine o_iy X6 hx hby at_314 334 ((if0 _ _).trans (tlt ((lw_lt _ _).mpr hc7)).1) ?_
     refine o_aw X6 hx hby at_334 ?_
     refine o_aw X6 hx hby at_336 ?_
     refine o_ac X6 hx hby at_338 341 true (decide_eq_true rfl) ?_
     refine o_ic X6 hx hby 1 at_341 ?_
     refine o_gt X6 hx hby at_342 346 ?_
     exact κ₀ _ _ _ (X6.more (by decide) (by decide)) N6
   · refine o_in X6 hx hby at_314 ((if0 _ _).trans (flt (fun q => absurd ((lw_lt _ _).mp q) hc7)).1) ?_
     refine o_lw X6 hx hby at_317 ?_
     refine o_iw X6 hx hby at_319 ?_
     refine o_i2l X6 hx hby at_321 ?_
     refine o_lcmp X6 hx hby at_322 ?_
     have := (mt Int64.lt_iff_toInt_lt.mpr hc7)
     have : (3 : Int32).toInt = 3 := (by decide)
     have : ((3 : Int32)).toInt64.toInt = 3 := (by decide)
     refine o_iy X6 hx hby at_323 334 ((if0 _ _).trans (tlt ((lw_gt _ _).mpr (show ((3 : Int32).toInt64) < pq from Int64.lt_iff_toInt_lt.mpr (by omega)))).2.2.1) ?_
     refine o_aw X6 hx hby at_334 ?_
     refine o_aw X6 hx hby at_336 ?_
     refine o_ac X6 hx hby at_338 341 true (decide_eq_true rfl) ?_
     refine o_ic X6 hx hby 1 at_341 ?_
     refine o_gt X6 hx hby at_342 346 ?_
     exact κ₀ _ _ _ (X6.more (by decide) (by decide)) N6
set_option maxRecDepth 65536 in
set_option maxHeartbeats 40000000 in
theorem sg113 (l Z a0) (hw : oW a0 Z) (x0 : Int32) (x1 x3 : Int64) (x5 : Int32) (x6 : Int64) (M : Int32) (mb bd : Int64) (n1 n2 n3 : Int32) (pq : Int64) (aE1 aE2 : Addr) (aE3 aV : Addr) (aN aH : Addr) (aS aG : Addr) (hd : Int32) (by_ : Int64) (f fv : Nat → Value) (kN : ClassId) (h0 : Heap) (n0 : Nat) (Z0 : n0 ≤ h0.size) (P0 : own_Hi Z h0 aH M mb aS aG hd (2 : Int32) by_ (3 : Int64)) (P1 : own_RE Z h0 aG M f) (P2 : f hd.toNatClampNeg = .ref aE2) (P3 : f ((hd + (1 : Int32)) % M).toNatClampNeg = .ref aE3) (P4 : own_RE Z h0 aV (4 : Int32) fv) (P5 : fv (1 : Int32).toNatClampNeg = .ref aE1) (P6 : fv (2 : Int32).toNatClampNeg = .ref aE2) (P7 : fv (3 : Int32).toNatClampNeg = .ref aE3) (P8 : Arv Z h0 aN kN .int (4 : Int32) [(.int 0), (.int n1), (.int n2), (.int n3)] (.int 0)) (P9 : 0 ≤ M.toInt ∧ M.toInt ≤ 7) (P10 : 0 ≤ hd.toInt ∧ hd.toInt < M.toInt) (P11 : 0 ≤ n1.toInt ∧ n1.toInt ≤ 7) (P12 : 0 ≤ n2.toInt ∧ n2.toInt ≤ 7) (P13 : 0 ≤ n3.toInt ∧ n3.toInt ≤ 7) (P14 : 0 ≤ mb.toInt) (P15 : (2 ≤ M.toInt ∧ n2.toInt + n3.toInt ≤ mb.toInt ∧ n2.toInt + n3.toInt + 256 ≤ bd.toInt)) (P16 : ¬ (3 ≤ M.toInt ∧ n1.toInt + n2.toInt + n3.toInt ≤ mb.toInt ∧ n1.toInt + n2.toInt + n3.toInt + 384 ≤ bd.toInt))
   (hx : p.tables.exec = Jvm.exec) (hby : c.code = code) (hml : c.maxLocals = 28) (hZ : Z.Warmed39 s.vm) (hown : s.vm.findClass "com/example/lockstep/lockstep/session/HistoryGetPinLaw" = some m.cls)
   (X0 : Stand p l e room_1 s m #[(.int x0), (.long x1), (.long x3), (.int x5), (.long x6)] below meth c s₁ locs 36 230) (e0 : s₁.heap = h0) (N0 : Fr n0 locs)
   (κ₀ : ∀ (T' : State) (L' : List Loc) (Ls : Array Slot), Stand p l e room_1 s m #[(.int x0), (.long x1), (.long x3), (.int x5), (.long x6)] below meth c T' L' 40 256 → Fr n0 L' → oG p e below F₀ (T'.setTop (mkF m 346 Ls [(.int 1)]))) :
   oG p e below F₀ (s₁.setTop (mkF m 270 (TL x0 x1 x3 x5 x6 M mb bd n1 n2 n3 3 pq aE1 aE2 aE3 aV aN aH .unset .unset .unset) [])) := by
 by_cases hc1 : pq.toInt = 2
 · refine o_aw X0 hx hby at_270 ?_
   refine o_lw X0 hx hby at_272 ?_
   have : (2 : Int32).toInt = 2 := (by decide)
   have : (3 : Int64).toInt = 3 := (by decide)
   refine o_cV X0 hx hZ hown hw hml hby (rm90 l Z a0 hw [] aH pq M mb aS aG hd (2 : Int32) by_ (3 : Int64) f aE2 h0 n0 Z0 P0 P1 P2 P9 P10 (show 0 ≤ (2 : Int32).toInt ∧ (2 : Int32).toInt ≤ (3 : Int64).toInt ∧ (3 : Int64).toInt ≤ 3 from by omega) (show 0 < (2 : Int32).toInt from by omega) (show pq.toInt = (3 : Int64).toInt - (2 : Int32).toInt + 1 from by omega)) (P0.1) e0 107 108 110 109 111 28 0 at_274 [(.long pq)] [] pd_29 hy_9 fun v2 T2 L2 hQ2 X2 => ?_
   obtain ⟨rfl, Nq2, eq2⟩ := hQ2
   have N2 := Fr.app N0 Nq2
   refine oV ?_
   refine o_asw X2 hx hby at_277 (TL x0 x1 x3 x5 x6 M mb bd n1 n2 n3 3 pq aE1 aE2 aE3 aV aN aH (vR aE2) .unset .unset) ?_
   refine o_iw X2 hx hby at_279 ?_
   refine o_aw X2 hx hby at_281 ?_
   refine o_iw X2 hx hby at_283 ?_
   refine o_lw X2 hx hby at_285 ?_
   refine o_lw X2 hx hby at_287 ?_
   refine o_cS X2 hx hZ hown hw hml hby (rm103 l Z a0 hw [] aN M mb bd kN n1 n2 n3 h0 n0 Z0 P8 P11 P12 P13 P9 P14 P15 P16) eq2 116 117 118 119 0 at_289 [(.int 3), (.ref aN), (.int M), (.long mb), (.long bd)] [] pd_30 hy_11 fun v3 T3 L3 hQ3 X3 => ?_
   obtain ⟨rfl, Nq3, eq3⟩ := hQ3
   have N3 := Fr.app N2 Nq3
   refine oV ?_
   refine o_isw X3 hx hby at_292 (TL x0 x1 x3 x5 x6 M mb bd n1 n2 n3 3 pq aE1 aE2 aE3 aV aN aH (vR aE2) (vI 2) .unset) ?_
   refine o_an X3 hx hby at_294 ?_
   refine o_asw X3 hx hby at_295 (TL x0 x1 x3 x5 x6 M mb bd n1 n2 n3 3 pq aE1 aE2 aE3 aV aN aH (vR aE2) (vI 2) (.val .null)) ?_
   refine o_iw X3 hx hby at_297 ?_
   refine o_ic X3 hx hby 1 at_299 ?_
   refine o_cn X3 hx hby at_300 ((flt (by decide)).1) ?_
   refine o_lw X3 hx hby at_303 ?_
   refine o_iw X3 hx hby at_305 ?_
   refine o_iw X3 hx hby at_307 ?_
   refine o_isub X3 hx hby at_309 ?_
   rw [show (((3 : Int32) - (2 : Int32)) : Int32) = (1 : Int32) from by decide]
   refine o_ic X3 hx hby 1 at_310 ?_
   refine o_iadd X3 hx hby at_311 ?_
   rw [show (((1 : Int32) + (1 : Int32)) : Int32) = (2 : Int32) from by decide]
   refine o_i2l X3 hx hby at_312 ?_
   refine o_lcmp X3 hx hby at_313 ?_
   have : ((2 : Int32)).toInt64.toInt = 2 := (by decide)
   refine o_in X3 hx hby at_314 ((if0 _ _).trans (flt (fun q => absurd ((lw_lt _ _).mp q) (show ¬ (pq < ((2 : Int32).toInt64)) from mt Int64.lt_iff_toInt_lt.mp (by omega)))).1) ?_
   refine o_lw X3 hx hby at_317 ?_
   refine o_iw X3 hx hby at_319 ?_
   refine o_i2l X3 hx hby at_321 ?_
   refine o_lcmp X3 hx hby at_322 ?_
   have : (3 : Int32).toInt = 3 := (by decide)
   have : ((3 : Int32)).toInt64.toInt = 3 := (by decide)
   refine o_in X3 hx hby at_323 ((if0 _ _).trans (flt (fun q => absurd ((lw_gt _ _).mp q) (show ¬ (((3 : Int32).toInt64) < pq) from mt Int64.lt_iff_toInt_lt.mp (by omega)))).2.2.1) ?_
   refine o_aw X3 hx hby at_326 ?_
   refine o_lw X3 hx hby at_328 ?_
   refine o_l2i X3 hx hby at_330 ?_
   have := And.intro (c_l2i pq) (rng32 (pq).toInt32)
   have : (0 : Int32).toInt = 0 := (by decide)
   have : (4 : Int32).toInt = 4 := (by decide)
   refine o_aa (v := (.ref aE2)) X3 hx hZ hby eq3 P4 at_331 ⟨(show ¬ ((pq.toInt32) < (0 : Int32)) from mt Int32.lt_iff_toInt_lt.mp (by omega)), (show (pq.toInt32) < (4 : Int32) from Int32.lt_iff_toInt_lt.mpr (by omega))⟩ ((congrArg fv (own_eqp (show (pq.toInt32).toInt = (2 : Int32).toInt from by omega))).trans P6) ?_
   refine o_asw X3 hx hby at_332 (TL x0 x1 x3 x5 x6 M mb bd n1 n2 n3 3 pq aE1 aE2 aE3 aV aN aH (vR aE2) (vI 2) (vR aE2)) ?_
   refine o_aw X3 hx hby at_334 ?_
   refine o_aw X3 hx hby at_336 ?_
   refine o_ac X3 hx hby at_338 341 true (decide_eq_true rfl) ?_
   refine o_ic X3 hx hby 1 at_341 ?_
   refine o_gt X3 hx hby at_342 346 ?_
   exact κ₀ _ _ _ (X3.more (by decide) (by decide)) N3
 · by_cases hc5 : pq.toInt = 3
   · refine o_aw X0 hx hby at_270 ?_
     refine o_lw X0 hx hby at_272 ?_
     have : (2 : Int32).toInt = 2 := (by decide)
     have : (3 : Int64).toInt = 3 := (by decide)
     refine o_cV X0 hx hZ hown hw hml hby (rm91 l Z a0 hw [] aH pq M mb aS aG hd (2 : Int32) by_ (3 : Int64) f aE3 h0 n0 Z0 P0 P1 P3 P9 P10 (show 0 ≤ (2 : Int32).toInt ∧ (2 : Int32).toInt ≤ (3 : Int64).toInt ∧ (3 : Int64).toInt ≤ 3 from by omega) (show 1 < (2 : Int32).toInt from by omega) (show pq.toInt = (3 : Int64).toInt - (2 : Int32).toInt + 2 from by omega)) (P0.1) e0 107 108 110 109 111 28 0 at_274 [(.long pq)] [] pd_29 hy_9 fun v6 T6 L6 hQ6 X6 => ?_
     obtain ⟨rfl, Nq6, eq6⟩ := hQ6
     have N6 := Fr.app N0 Nq6
     refine oV ?_
     refine o_asw X6 hx hby at_277 (TL x0 x1 x3 x5 x6 M mb bd n1 n2 n3 3 pq aE1 aE2 aE3 aV aN aH (vR aE3) .unset .unset) ?_
     refine o_iw X6 hx hby at_279 ?_
     refine o_aw X6 hx hby at_281 ?_
     refine o_iw X6 hx hby at_283 ?_
     refine o_lw X6 hx hby at_285 ?_
     refine o_lw X6 hx hby at_287 ?_
     refine o_cS X6 hx hZ hown hw hml hby (rm103 l Z a0 hw [] aN M mb bd kN n1 n2 n3 h0 n0 Z0 P8 P11 P12 P13 P9 P14 P15 P16) eq6 116 117 118 119 0 at_289 [(.int 3), (.ref aN), (.int M), (.long mb), (.long bd)] [] pd_30 hy_11 fun v7 T7 L7 hQ7 X7 => ?_
     obtain ⟨rfl, Nq7, eq7⟩ := hQ7
     have N7 := Fr.app N6 Nq7
     refine oV ?_
     refine o_isw X7 hx hby at_292 (TL x0 x1 x3 x5 x6 M mb bd n1 n2 n3 3 pq aE1 aE2 aE3 aV aN aH (vR aE3) (vI 2) .unset) ?_
     refine o_an X7 hx hby at_294 ?_
     refine o_asw X7 hx hby at_295 (TL x0 x1 x3 x5 x6 M mb bd n1 n2 n3 3 pq aE1 aE2 aE3 aV aN aH (vR aE3) (vI 2) (.val .null)) ?_
     refine o_iw X7 hx hby at_297 ?_
     refine o_ic X7 hx hby 1 at_299 ?_
     refine o_cn X7 hx hby at_300 ((flt (by decide)).1) ?_
     refine o_lw X7 hx hby at_303 ?_
     refine o_iw X7 hx hby at_305 ?_
     refine o_iw X7 hx hby at_307 ?_
     refine o_isub X7 hx hby at_309 ?_
     rw [show (((3 : Int32) - (2 : Int32)) : Int32) = (1 : Int32) from by decide]
     refine o_ic X7 hx hby 1 at_310 ?_
     refine o_iadd X7 hx hby at_311 ?_
     rw [show (((1 : Int32) + (1 : Int32)) : Int32) = (2 : Int32) from by decide]
     refine o_i2l X7 hx hby at_312 ?_
     refine o_lcmp X7 hx hby at_313 ?_
     have : ((2 : Int32)).toInt64.toInt = 2 := (by decide)
     refine o_in X7 hx hby at_314 ((if0 _ _).trans (flt (fun q => absurd ((lw_lt _ _).mp q) (show ¬ (pq < ((2 : Int32).toInt64)) from mt Int64.lt_iff_toInt_lt.mp (by omega)))).1) ?_
     refine o_lw X7 hx hby at_317 ?_
     refine o_iw X7 hx hby at_319 ?_
     refine o_i2l X7 hx hby at_321 ?_
     refine o_lcmp X7 hx hby at_322 ?_
     have : (3 : Int32).toInt = 3 := (by decide)
     have : ((3 : Int32)).toInt64.toInt = 3 := (by decide)
     refine o_in X7 hx hby at_323 ((if0 _ _).trans (flt (fun q => absurd ((lw_gt _ _).mp q) (show ¬ (((3 : Int32).toInt64) < pq) from mt Int64.lt_iff_toInt_lt.mp (by omega)))).2.2.1) ?_
     refine o_aw X7 hx hby at_326 ?_
     refine o_lw X7 hx hby at_328 ?_
     refine o_l2i X7 hx hby at_330 ?_
     have := And.intro (c_l2i pq) (rng32 (pq).toInt32)
     have : (0 : Int32).toInt = 0 := (by decide)
     have : (4 : Int32).toInt = 4 := (by decide)
     refine o_aa (v := (.ref aE3)) X7 hx hZ hby eq7 P4 at_331 ⟨(show ¬ ((pq.toInt32) < (0 : Int32)) from mt Int32.lt_iff_toInt_lt.mp (by omega)), (show (pq.toInt32) < (4 : Int32) from Int32.lt_iff_toInt_lt.mpr (by omega))⟩ ((congrArg fv (own_eqp (show (pq.toInt32).toInt = (3 : Int32).toInt from by omega))).trans P7) ?_
     refine o_asw X7 hx hby at_332 (TL x0 x1 x3 x5 x6 M mb bd n1 n2 n3 3 pq aE1 aE2 aE3 aV aN aH (vR aE3) (vI 2) (vR aE3)) ?_
     refine o_aw X7 hx hby at_334 ?_
     refine o_aw X7 hx hby at_336 ?_
     refine o_ac X7 hx hby at_338 341 true (decide_eq_true rfl) ?_
     refine o_ic X7 hx hby 1 at_341 ?_
     refine o_gt X7 hx hby at_342 346 ?_
     exact κ₀ _ _ _ (X7.more (by decide) (by decide)) N7
   · refine o_aw X0 hx hby at_270 ?_
     refine o_lw X0 hx hby at_272 ?_
     have : (2 : Int32).toInt = 2 := (by decide)
     have : (3 : Int64).toInt = 3 := (by decide)
     refine o_cV X0 hx hZ hown hw hml hby (rm89 l Z a0 hw [] aH pq M mb aS aG hd (2 : Int32) by_ (3 : Int64) h0 n0 Z0 P0 (show 0 ≤ (2 : Int32).toInt ∧ (2 : Int32).toInt ≤ (3 : Int64).toInt ∧ (3 : Int64).toInt ≤ 3 from by omega) (show ¬ ((3 : Int64).toInt - (2 : Int32).toInt + 1 ≤ pq.toInt ∧ pq.toInt ≤ (3 : Int64).toInt) from by omega)) (P0.1) e0 107 108 110 109 111 28 0 at_274 [(.long pq)] [] pd_29 hy_9 fun v9 T9 L9 hQ9 X9 => ?_
     obtain ⟨rfl, Nq9, eq9⟩ := hQ9
     have N9 := Fr.app N0 Nq9
     refine oV ?_
     refine o_asw X9 hx hby at_277 (TL x0 x1 x3 x5 x6 M mb bd n1 n2 n3 3 pq aE1 aE2 aE3 aV aN aH (.val .null) .unset .unset) ?_
     refine o_iw X9 hx hby at_279 ?_
     refine o_aw X9 hx hby at_281 ?_
     refine o_iw X9 hx hby at_283 ?_
     refine o_lw X9 hx hby at_285 ?_
     refine o_lw X9 hx hby at_287 ?_
     refine o_cS X9 hx hZ hown hw hml hby (rm103 l Z a0 hw [] aN M mb bd kN n1 n2 n3 h0 n0 Z0 P8 P11 P12 P13 P9 P14 P15 P16) eq9 116 117 118 119 0 at_289 [(.int 3), (.ref aN), (.int M), (.long mb), (.long bd)] [] pd_30 hy_11 fun v10 T10 L10 hQ10 X10 => ?_
     obtain ⟨rfl, Nq10, eq10⟩ := hQ10
     have N10 := Fr.app N9 Nq10
     refine oV ?_
     refine o_isw X10 hx hby at_292 (TL x0 x1 x3 x5 x6 M mb bd n1 n2 n3 3 pq aE1 aE2 aE3 aV aN aH (.val .null) (vI 2) .unset) ?_
     refine o_an X10 hx hby at_294 ?_
     refine o_asw X10 hx hby at_295 (TL x0 x1 x3 x5 x6 M mb bd n1 n2 n3 3 pq aE1 aE2 aE3 aV aN aH (.val .null) (vI 2) (.val .null)) ?_
     refine o_iw X10 hx hby at_297 ?_
     refine o_ic X10 hx hby 1 at_299 ?_
     refine o_cn X10 hx hby at_300 ((flt (by decide)).1) ?_
     refine o_lw X10 hx hby at_303 ?_
     refine o_iw X10 hx hby at_305 ?_
     refine o_iw X10 hx hby at_307 ?_
     refine o_isub X10 hx hby at_309 ?_
     rw [show (((3 : Int32) - (2 : Int32)) : Int32) = (1 : Int32) from by decide]
     refine o_ic X10 hx hby 1 at_310 ?_
     refine o_iadd X10 hx hby at_311 ?_
     rw [show (((1 : Int32) + (1 : Int32)) : Int32) = (2 : Int32) from by decide]
     refine o_i2l X10 hx hby at_312 ?_
     refine o_lcmp X10 hx hby at_313 ?_
     by_cases hc11 : pq < ((2 : Int32).toInt64)
     · refine o_iy X10 hx hby at_314 334 ((if0 _ _).trans (tlt ((lw_lt _ _).mpr hc11)).1) ?_
       refine o_aw X10 hx hby at_334 ?_
       refine o_aw X10 hx hby at_336 ?_
       refine o_ac X10 hx hby at_338 341 true (decide_eq_true rfl) ?_
       refine o_ic X10 hx hby 1 at_341 ?_
       refine o_gt X10 hx hby at_342 346 ?_
       exact κ₀ _ _ _ (X10.more (by decide) (by decide)) N10
     · refine o_in X10 hx hby at_314 ((if0 _ _).trans (flt (fun q => absurd ((lw_lt _ _).mp q) hc11)).1) ?_
       refine o_lw X10 hx hby at_317 ?_
       refine o_iw X10 hx hby at_319 ?_
       refine o_i2l X10 hx hby at_321 ?_
       refine o_lcmp X10 hx hby at_322 ?_
       have := (mt Int64.lt_iff_toInt_lt.mpr hc11)
       have : ((2 : Int32)).toInt64.toInt = 2 := (by decide)
       have : (3 : Int32).toInt = 3 := (by decide)
       have : ((3 : Int32)).toInt64.toInt = 3 := (by decide)
       refine o_iy X10 hx hby at_323 334 ((if0 _ _).trans (tlt ((lw_gt _ _).mpr (show ((3 : Int32).toInt64) < pq from Int64.lt_iff_toInt_lt.mpr (by omega)))).2.2.1) ?_
       refine o_aw X10 hx hby at_334 ?_
       refine o_aw X10 hx hby at_336 ?_
       refine o_ac X10 hx hby at_338 341 true (decide_eq_true rfl) ?_
       refine o_ic X10 hx hby 1 at_341 ?_
       refine o_gt X10 hx hby at_342 346 ?_
       exact κ₀ _ _ _ (X10.more (by decide) (by decide)) N10
set_option maxRecDepth 65536 in
set_option maxHeartbeats 40000000 in
theorem sg114 (l Z a0) (hw : oW a0 Z) (x0 : Int32) (x1 x3 : Int64) (x5 : Int32) (x6 : Int64) (M : Int32) (mb bd : Int64) (n1 n2 n3 : Int32) (pq : Int64) (aE1 aE2 : Addr) (aE3 aV : Addr) (aN aH : Addr) (aS aG : Addr) (hd : Int32) (by_ : Int64) (f fv : Nat → Value) (kN : ClassId) (h0 : Heap) (n0 : Nat) (Z0 : n0 ≤ h0.size) (P0 : own_Hi Z h0 aH M mb aS aG hd (3 : Int32) by_ (3 : Int64)) (P1 : own_RE Z h0 aG M f) (P2 : f hd.toNatClampNeg = .ref aE1) (P3 : f ((hd + (1 : Int32)) % M).toNatClampNeg = .ref aE2) (P4 : f ((hd + (2 : Int32)) % M).toNatClampNeg = .ref aE3) (P5 : own_RE Z h0 aV (4 : Int32) fv) (P6 : fv (1 : Int32).toNatClampNeg = .ref aE1) (P7 : fv (2 : Int32).toNatClampNeg = .ref aE2) (P8 : fv (3 : Int32).toNatClampNeg = .ref aE3) (P9 : Arv Z h0 aN kN .int (4 : Int32) [(.int 0), (.int n1), (.int n2), (.int n3)] (.int 0)) (P10 : 0 ≤ M.toInt ∧ M.toInt ≤ 7) (P11 : 0 ≤ hd.toInt ∧ hd.toInt < M.toInt) (P12 : 0 ≤ n1.toInt ∧ n1.toInt ≤ 7) (P13 : 0 ≤ n2.toInt ∧ n2.toInt ≤ 7) (P14 : 0 ≤ n3.toInt ∧ n3.toInt ≤ 7) (P15 : 0 ≤ mb.toInt) (P16 : (3 ≤ M.toInt ∧ n1.toInt + n2.toInt + n3.toInt ≤ mb.toInt ∧ n1.toInt + n2.toInt + n3.toInt + 384 ≤ bd.toInt))
   (hx : p.tables.exec = Jvm.exec) (hby : c.code = code) (hml : c.maxLocals = 28) (hZ : Z.Warmed39 s.vm) (hown : s.vm.findClass "com/example/lockstep/lockstep/session/HistoryGetPinLaw" = some m.cls)
   (X0 : Stand p l e room_1 s m #[(.int x0), (.long x1), (.long x3), (.int x5), (.long x6)] below meth c s₁ locs 36 230) (e0 : s₁.heap = h0) (N0 : Fr n0 locs)
   (κ₀ : ∀ (T' : State) (L' : List Loc) (Ls : Array Slot), Stand p l e room_1 s m #[(.int x0), (.long x1), (.long x3), (.int x5), (.long x6)] below meth c T' L' 40 256 → Fr n0 L' → oG p e below F₀ (T'.setTop (mkF m 346 Ls [(.int 1)]))) :
   oG p e below F₀ (s₁.setTop (mkF m 270 (TL x0 x1 x3 x5 x6 M mb bd n1 n2 n3 3 pq aE1 aE2 aE3 aV aN aH .unset .unset .unset) [])) := by
 by_cases hc1 : pq.toInt = 1
 · refine o_aw X0 hx hby at_270 ?_
   refine o_lw X0 hx hby at_272 ?_
   have : (3 : Int32).toInt = 3 := (by decide)
   have : (3 : Int64).toInt = 3 := (by decide)
   refine o_cV X0 hx hZ hown hw hml hby (rm90 l Z a0 hw [] aH pq M mb aS aG hd (3 : Int32) by_ (3 : Int64) f aE1 h0 n0 Z0 P0 P1 P2 P10 P11 (show 0 ≤ (3 : Int32).toInt ∧ (3 : Int32).toInt ≤ (3 : Int64).toInt ∧ (3 : Int64).toInt ≤ 3 from by omega) (show 0 < (3 : Int32).toInt from by omega) (show pq.toInt = (3 : Int64).toInt - (3 : Int32).toInt + 1 from by omega)) (P0.1) e0 107 108 110 109 111 28 0 at_274 [(.long pq)] [] pd_29 hy_9 fun v2 T2 L2 hQ2 X2 => ?_
   obtain ⟨rfl, Nq2, eq2⟩ := hQ2
   have N2 := Fr.app N0 Nq2
   refine oV ?_
   refine o_asw X2 hx hby at_277 (TL x0 x1 x3 x5 x6 M mb bd n1 n2 n3 3 pq aE1 aE2 aE3 aV aN aH (vR aE1) .unset .unset) ?_
   refine o_iw X2 hx hby at_279 ?_
   refine o_aw X2 hx hby at_281 ?_
   refine o_iw X2 hx hby at_283 ?_
   refine o_lw X2 hx hby at_285 ?_
   refine o_lw X2 hx hby at_287 ?_
   refine o_cS X2 hx hZ hown hw hml hby (rm104 l Z a0 hw [] aN M mb bd kN n1 n2 n3 h0 n0 Z0 P9 P12 P13 P14 P10 P15 P16) eq2 116 117 118 119 0 at_289 [(.int 3), (.ref aN), (.int M), (.long mb), (.long bd)] [] pd_30 hy_11 fun v3 T3 L3 hQ3 X3 => ?_
   obtain ⟨rfl, Nq3, eq3⟩ := hQ3
   have N3 := Fr.app N2 Nq3
   refine oV ?_
   refine o_isw X3 hx hby at_292 (TL x0 x1 x3 x5 x6 M mb bd n1 n2 n3 3 pq aE1 aE2 aE3 aV aN aH (vR aE1) (vI 3) .unset) ?_
   refine o_an X3 hx hby at_294 ?_
   refine o_asw X3 hx hby at_295 (TL x0 x1 x3 x5 x6 M mb bd n1 n2 n3 3 pq aE1 aE2 aE3 aV aN aH (vR aE1) (vI 3) (.val .null)) ?_
   refine o_iw X3 hx hby at_297 ?_
   refine o_ic X3 hx hby 1 at_299 ?_
   refine o_cn X3 hx hby at_300 ((flt (by decide)).1) ?_
   refine o_lw X3 hx hby at_303 ?_
   refine o_iw X3 hx hby at_305 ?_
   refine o_iw X3 hx hby at_307 ?_
   refine o_isub X3 hx hby at_309 ?_
   rw [show (((3 : Int32) - (3 : Int32)) : Int32) = (0 : Int32) from by decide]
   refine o_ic X3 hx hby 1 at_310 ?_
   refine o_iadd X3 hx hby at_311 ?_
   rw [show (((0 : Int32) + (1 : Int32)) : Int32) = (1 : Int32) from by decide]
   refine o_i2l X3 hx hby at_312 ?_
   refine o_lcmp X3 hx hby at_313 ?_
   have : (1 : Int32).toInt = 1 := (by decide)
   have : ((1 : Int32)).toInt64.toInt = 1 := (by decide)
   refine o_in X3 hx hby at_314 ((if0 _ _).trans (flt (fun q => absurd ((lw_lt _ _).mp q) (show ¬ (pq < ((1 : Int32).toInt64)) from mt Int64.lt_iff_toInt_lt.mp (by omega)))).1) ?_
   refine o_lw X3 hx hby at_317 ?_
   refine o_iw X3 hx hby at_319 ?_
   refine o_i2l X3 hx hby at_321 ?_
   refine o_lcmp X3 hx hby at_322 ?_
   have : ((3 : Int32)).toInt64.toInt = 3 := (by decide)
   refine o_in X3 hx hby at_323 ((if0 _ _).trans (flt (fun q => absurd ((lw_gt _ _).mp q) (show ¬ (((3 : Int32).toInt64) < pq) from mt Int64.lt_iff_toInt_lt.mp (by omega)))).2.2.1) ?_
   refine o_aw X3 hx hby at_326 ?_
   refine o_lw X3 hx hby at_328 ?_
   refine o_l2i X3 hx hby at_330 ?_
   have := And.intro (c_l2i pq) (rng32 (pq).toInt32)
   have : (0 : Int32).toInt = 0 := (by decide)
   have : (4 : Int32).toInt = 4 := (by decide)
   refine o_aa (v := (.ref aE1)) X3 hx hZ hby eq3 P5 at_331 ⟨(show ¬ ((pq.toInt32) < (0 : Int32)) from mt Int32.lt_iff_toInt_lt.mp (by omega)), (show (pq.toInt32) < (4 : Int32) from Int32.lt_iff_toInt_lt.mpr (by omega))⟩ ((congrArg fv (own_eqp (show (pq.toInt32).toInt = (1 : Int32).toInt from by omega))).trans P6) ?_
   refine o_asw X3 hx hby at_332 (TL x0 x1 x3 x5 x6 M mb bd n1 n2 n3 3 pq aE1 aE2 aE3 aV aN aH (vR aE1) (vI 3) (vR aE1)) ?_
   refine o_aw X3 hx hby at_334 ?_
   refine o_aw X3 hx hby at_336 ?_
   refine o_ac X3 hx hby at_338 341 true (decide_eq_true rfl) ?_
   refine o_ic X3 hx hby 1 at_341 ?_
   refine o_gt X3 hx hby at_342 346 ?_
   exact κ₀ _ _ _ (X3.more (by decide) (by decide)) N3
 · by_cases hc5 : pq.toInt = 2
   · refine o_aw X0 hx hby at_270 ?_
     refine o_lw X0 hx hby at_272 ?_
     have : (3 : Int32).toInt = 3 := (by decide)
     have : (3 : Int64).toInt = 3 := (by decide)
     refine o_cV X0 hx hZ hown hw hml hby (rm91 l Z a0 hw [] aH pq M mb aS aG hd (3 : Int32) by_ (3 : Int64) f aE2 h0 n0 Z0 P0 P1 P3 P10 P11 (show 0 ≤ (3 : Int32).toInt ∧ (3 : Int32).toInt ≤ (3 : Int64).toInt ∧ (3 : Int64).toInt ≤ 3 from by omega) (show 1 < (3 : Int32).toInt from by omega) (show pq.toInt = (3 : Int64).toInt - (3 : Int32).toInt + 2 from by omega)) (P0.1) e0 107 108 110 109 111 28 0 at_274 [(.long pq)] [] pd_29 hy_9 fun v6 T6 L6 hQ6 X6 => ?_
     obtain ⟨rfl, Nq6, eq6⟩ := hQ6
     have N6 := Fr.app N0 Nq6
     refine oV ?_
     refine o_asw X6 hx hby at_277 (TL x0 x1 x3 x5 x6 M mb bd n1 n2 n3 3 pq aE1 aE2 aE3 aV aN aH (vR aE2) .unset .unset) ?_
     refine o_iw X6 hx hby at_279 ?_
     refine o_aw X6 hx hby at_281 ?_
     refine o_iw X6 hx hby at_283 ?_
     refine o_lw X6 hx hby at_285 ?_
     refine o_lw X6 hx hby at_287 ?_
     refine o_cS X6 hx hZ hown hw hml hby (rm104 l Z a0 hw [] aN M mb bd kN n1 n2 n3 h0 n0 Z0 P9 P12 P13 P14 P10 P15 P16) eq6 116 117 118 119 0 at_289 [(.int 3), (.ref aN), (.int M), (.long mb), (.long bd)] [] pd_30 hy_11 fun v7 T7 L7 hQ7 X7 => ?_
     obtain ⟨rfl, Nq7, eq7⟩ := hQ7
     have N7 := Fr.app N6 Nq7
     refine oV ?_
     refine o_isw X7 hx hby at_292 (TL x0 x1 x3 x5 x6 M mb bd n1 n2 n3 3 pq aE1 aE2 aE3 aV aN aH (vR aE2) (vI 3) .unset) ?_
     refine o_an X7 hx hby at_294 ?_
     refine o_asw X7 hx hby at_295 (TL x0 x1 x3 x5 x6 M mb bd n1 n2 n3 3 pq aE1 aE2 aE3 aV aN aH (vR aE2) (vI 3) (.val .null)) ?_
     refine o_iw X7 hx hby at_297 ?_
     refine o_ic X7 hx hby 1 at_299 ?_
     refine o_cn X7 hx hby at_300 ((flt (by decide)).1) ?_
     refine o_lw X7 hx hby at_303 ?_
     refine o_iw X7 hx hby at_305 ?_
     refine o_iw X7 hx hby at_307 ?_
     refine o_isub X7 hx hby at_309 ?_
     rw [show (((3 : Int32) - (3 : Int32)) : Int32) = (0 : Int32) from by decide]
     refine o_ic X7 hx hby 1 at_310 ?_
     refine o_iadd X7 hx hby at_311 ?_
     rw [show (((0 : Int32) + (1 : Int32)) : Int32) = (1 : Int32) from by decide]
     refine o_i2l X7 hx hby at_312 ?_
     refine o_lcmp X7 hx hby at_313 ?_
     have : (1 : Int32).toInt = 1 := (by decide)
     have : ((1 : Int32)).toInt64.toInt = 1 := (by decide)
     refine o_in X7 hx hby at_314 ((if0 _ _).trans (flt (fun q => absurd ((lw_lt _ _).mp q) (show ¬ (pq < ((1 : Int32).toInt64)) from mt Int64.lt_iff_toInt_lt.mp (by omega)))).1) ?_
     refine o_lw X7 hx hby at_317 ?_
     refine o_iw X7 hx hby at_319 ?_
     refine o_i2l X7 hx hby at_321 ?_
     refine o_lcmp X7 hx hby at_322 ?_
     have : ((3 : Int32)).toInt64.toInt = 3 := (by decide)
     refine o_in X7 hx hby at_323 ((if0 _ _).trans (flt (fun q => absurd ((lw_gt _ _).mp q) (show ¬ (((3 : Int32).toInt64) < pq) from mt Int64.lt_iff_toInt_lt.mp (by omega)))).2.2.1) ?_
     refine o_aw X7 hx hby at_326 ?_
     refine o_lw X7 hx hby at_328 ?_
     refine o_l2i X7 hx hby at_330 ?_
     have := And.intro (c_l2i pq) (rng32 (pq).toInt32)
     have : (2 : Int32).toInt = 2 := (by decide)
     have : (0 : Int32).toInt = 0 := (by decide)
     have : (4 : Int32).toInt = 4 := (by decide)
     refine o_aa (v := (.ref aE2)) X7 hx hZ hby eq7 P5 at_331 ⟨(show ¬ ((pq.toInt32) < (0 : Int32)) from mt Int32.lt_iff_toInt_lt.mp (by omega)), (show (pq.toInt32) < (4 : Int32) from Int32.lt_iff_toInt_lt.mpr (by omega))⟩ ((congrArg fv (own_eqp (show (pq.toInt32).toInt = (2 : Int32).toInt from by omega))).trans P7) ?_
     refine o_asw X7 hx hby at_332 (TL x0 x1 x3 x5 x6 M mb bd n1 n2 n3 3 pq aE1 aE2 aE3 aV aN aH (vR aE2) (vI 3) (vR aE2)) ?_
     refine o_aw X7 hx hby at_334 ?_
     refine o_aw X7 hx hby at_336 ?_
     refine o_ac X7 hx hby at_338 341 true (decide_eq_true rfl) ?_
     refine o_ic X7 hx hby 1 at_341 ?_
     refine o_gt X7 hx hby at_342 346 ?_
     exact κ₀ _ _ _ (X7.more (by decide) (by decide)) N7
   · by_cases hc9 : pq.toInt = 3
     · refine o_aw X0 hx hby at_270 ?_
       refine o_lw X0 hx hby at_272 ?_
       have : (3 : Int32).toInt = 3 := (by decide)
       have : (3 : Int64).toInt = 3 := (by decide)
       refine o_cV X0 hx hZ hown hw hml hby (rm92 l Z a0 hw [] aH pq M mb aS aG hd (3 : Int32) by_ (3 : Int64) f aE3 h0 n0 Z0 P0 P1 P4 P10 P11 (show 0 ≤ (3 : Int32).toInt ∧ (3 : Int32).toInt ≤ (3 : Int64).toInt ∧ (3 : Int64).toInt ≤ 3 from by omega) (show 2 < (3 : Int32).toInt from by omega) (show pq.toInt = (3 : Int64).toInt - (3 : Int32).toInt + 3 from by omega)) (P0.1) e0 107 108 110 109 111 28 0 at_274 [(.long pq)] [] pd_29 hy_9 fun v10 T10 L10 hQ10 X10 => ?_
       obtain ⟨rfl, Nq10, eq10⟩ := hQ10
       have N10 := Fr.app N0 Nq10
       refine oV ?_
       refine o_asw X10 hx hby at_277 (TL x0 x1 x3 x5 x6 M mb bd n1 n2 n3 3 pq aE1 aE2 aE3 aV aN aH (vR aE3) .unset .unset) ?_
       refine o_iw X10 hx hby at_279 ?_
       refine o_aw X10 hx hby at_281 ?_
       refine o_iw X10 hx hby at_283 ?_
       refine o_lw X10 hx hby at_285 ?_
       refine o_lw X10 hx hby at_287 ?_
       refine o_cS X10 hx hZ hown hw hml hby (rm104 l Z a0 hw [] aN M mb bd kN n1 n2 n3 h0 n0 Z0 P9 P12 P13 P14 P10 P15 P16) eq10 116 117 118 119 0 at_289 [(.int 3), (.ref aN), (.int M), (.long mb), (.long bd)] [] pd_30 hy_11 fun v11 T11 L11 hQ11 X11 => ?_
       obtain ⟨rfl, Nq11, eq11⟩ := hQ11
       have N11 := Fr.app N10 Nq11
       refine oV ?_
       refine o_isw X11 hx hby at_292 (TL x0 x1 x3 x5 x6 M mb bd n1 n2 n3 3 pq aE1 aE2 aE3 aV aN aH (vR aE3) (vI 3) .unset) ?_
       refine o_an X11 hx hby at_294 ?_
       refine o_asw X11 hx hby at_295 (TL x0 x1 x3 x5 x6 M mb bd n1 n2 n3 3 pq aE1 aE2 aE3 aV aN aH (vR aE3) (vI 3) (.val .null)) ?_
       refine o_iw X11 hx hby at_297 ?_
       refine o_ic X11 hx hby 1 at_299 ?_
       refine o_cn X11 hx hby at_300 ((flt (by decide)).1) ?_
       refine o_lw X11 hx hby at_303 ?_
       refine o_iw X11 hx hby at_305 ?_
       refine o_iw X11 hx hby at_307 ?_
       refine o_isub X11 hx hby at_309 ?_
       rw [show (((3 : Int32) - (3 : Int32)) : Int32) = (0 : Int32) from by decide]
       refine o_ic X11 hx hby 1 at_310 ?_
       refine o_iadd X11 hx hby at_311 ?_
       rw [show (((0 : Int32) + (1 : Int32)) : Int32) = (1 : Int32) from by decide]
       refine o_i2l X11 hx hby at_312 ?_
       refine o_lcmp X11 hx hby at_313 ?_
       have : (1 : Int32).toInt = 1 := (by decide)
       have : ((1 : Int32)).toInt64.toInt = 1 := (by decide)
       refine o_in X11 hx hby at_314 ((if0 _ _).trans (flt (fun q => absurd ((lw_lt _ _).mp q) (show ¬ (pq < ((1 : Int32).toInt64)) from mt Int64.lt_iff_toInt_lt.mp (by omega)))).1) ?_
       refine o_lw X11 hx hby at_317 ?_
       refine o_iw X11 hx hby at_319 ?_
       refine o_i2l X11 hx hby at_321 ?_
       refine o_lcmp X11 hx hby at_322 ?_
       have : ((3 : Int32)).toInt64.toInt = 3 := (by decide)
       refine o_in X11 hx hby at_323 ((if0 _ _).trans (flt (fun q => absurd ((lw_gt _ _).mp q) (show ¬ (((3 : Int32).toInt64) < pq) from mt Int64.lt_iff_toInt_lt.mp (by omega)))).2.2.1) ?_
       refine o_aw X11 hx hby at_326 ?_
       refine o_lw X11 hx hby at_328 ?_
       refine o_l2i X11 hx hby at_330 ?_
       have := And.intro (c_l2i pq) (rng32 (pq).toInt32)
       have : (0 : Int32).toInt = 0 := (by decide)
       have : (4 : Int32).toInt = 4 := (by decide)
       refine o_aa (v := (.ref aE3)) X11 hx hZ hby eq11 P5 at_331 ⟨(show ¬ ((pq.toInt32) < (0 : Int32)) from mt Int32.lt_iff_toInt_lt.mp (by omega)), (show (pq.toInt32) < (4 : Int32) from Int32.lt_iff_toInt_lt.mpr (by omega))⟩ ((congrArg fv (own_eqp (show (pq.toInt32).toInt = (3 : Int32).toInt from by omega))).trans P8) ?_
       refine o_asw X11 hx hby at_332 (TL x0 x1 x3 x5 x6 M mb bd n1 n2 n3 3 pq aE1 aE2 aE3 aV aN aH (vR aE3) (vI 3) (vR aE3)) ?_
       refine o_aw X11 hx hby at_334 ?_
       refine o_aw X11 hx hby at_336 ?_
       refine o_ac X11 hx hby at_338 341 true (decide_eq_true rfl) ?_
       refine o_ic X11 hx hby 1 at_341 ?_
       refine o_gt X11 hx hby at_342 346 ?_
       exact κ₀ _ _ _ (X11.more (by decide) (by decide)) N11
     · refine o_aw X0 hx hby at_270 ?_
       refine o_lw X0 hx hby at_272 ?_
       have : (3 : Int32).toInt = 3 := (by decide)
       have : (3 : Int64).toInt = 3 := (by decide)
       refine o_cV X0 hx hZ hown hw hml hby (rm89 l Z a0 hw [] aH pq M mb aS aG hd (3 : Int32) by_ (3 : Int64) h0 n0 Z0 P0 (show 0 ≤ (3 : Int32).toInt ∧ (3 : Int32).toInt ≤ (3 : Int64).toInt ∧ (3 : Int64).toInt ≤ 3 from by omega) (show ¬ ((3 : Int64).toInt - (3 : Int32).toInt + 1 ≤ pq.toInt ∧ pq.toInt ≤ (3 : Int64).toInt) from by omega)) (P0.1) e0 107 108 110 109 111 28 0 at_274 [(.long pq)] [] pd_29 hy_9 fun v13 T13 L13 hQ13 X13 => ?_
       obtain ⟨rfl, Nq13, eq13⟩ := hQ13
       have N13 := Fr.app N0 Nq13
       refine oV ?_
       refine o_asw X13 hx hby at_277 (TL x0 x1 x3 x5 x6 M mb bd n1 n2 n3 3 pq aE1 aE2 aE3 aV aN aH (.val .null) .unset .unset) ?_
       refine o_iw X13 hx hby at_279 ?_
       refine o_aw X13 hx hby at_281 ?_
       refine o_iw X13 hx hby at_283 ?_
       refine o_lw X13 hx hby at_285 ?_
       refine o_lw X13 hx hby at_287 ?_
       refine o_cS X13 hx hZ hown hw hml hby (rm104 l Z a0 hw [] aN M mb bd kN n1 n2 n3 h0 n0 Z0 P9 P12 P13 P14 P10 P15 P16) eq13 116 117 118 119 0 at_289 [(.int 3), (.ref aN), (.int M), (.long mb), (.long bd)] [] pd_30 hy_11 fun v14 T14 L14 hQ14 X14 => ?_
       obtain ⟨rfl, Nq14, eq14⟩ := hQ14
       have N14 := Fr.app N13 Nq14
       refine oV ?_
       refine o_isw X14 hx hby at_292 (TL x0 x1 x3 x5 x6 M mb bd n1 n2 n3 3 pq aE1 aE2 aE3 aV aN aH (.val .null) (vI 3) .unset) ?_
       refine o_an X14 hx hby at_294 ?_
       refine o_asw X14 hx hby at_295 (TL x0 x1 x3 x5 x6 M mb bd n1 n2 n3 3 pq aE1 aE2 aE3 aV aN aH (.val .null) (vI 3) (.val .null)) ?_
       refine o_iw X14 hx hby at_297 ?_
       refine o_ic X14 hx hby 1 at_299 ?_
       refine o_cn X14 hx hby at_300 ((flt (by decide)).1) ?_
       refine o_lw X14 hx hby at_303 ?_
       refine o_iw X14 hx hby at_305 ?_
       refine o_iw X14 hx hby at_307 ?_
       refine o_isub X14 hx hby at_309 ?_
       rw [show (((3 : Int32) - (3 : Int32)) : Int32) = (0 : Int32) from by decide]
       refine o_ic X14 hx hby 1 at_310 ?_
       refine o_iadd X14 hx hby at_311 ?_
       rw [show (((0 : Int32) + (1 : Int32)) : Int32) = (1 : Int32) from by decide]
       refine o_i2l X14 hx hby at_312 ?_
       refine o_lcmp X14 hx hby at_313 ?_
       by_cases hc15 : pq < ((1 : Int32).toInt64)
       · refine o_iy X14 hx hby at_314 334 ((if0 _ _).trans (tlt ((lw_lt _ _).mpr hc15)).1) ?_
         refine o_aw X14 hx hby at_334 ?_
         refine o_aw X14 hx hby at_336 ?_
         refine o_ac X14 hx hby at_338 341 true (decide_eq_true rfl) ?_
         refine o_ic X14 hx hby 1 at_341 ?_
         refine o_gt X14 hx hby at_342 346 ?_
         exact κ₀ _ _ _ (X14.more (by decide) (by decide)) N14
       · refine o_in X14 hx hby at_314 ((if0 _ _).trans (flt (fun q => absurd ((lw_lt _ _).mp q) hc15)).1) ?_
         refine o_lw X14 hx hby at_317 ?_
         refine o_iw X14 hx hby at_319 ?_
         refine o_i2l X14 hx hby at_321 ?_
         refine o_lcmp X14 hx hby at_322 ?_
         have := (mt Int64.lt_iff_toInt_lt.mpr hc15)
         have : (1 : Int32).toInt = 1 := (by decide)
         have : ((1 : Int32)).toInt64.toInt = 1 := (by decide)
         have : ((3 : Int32)).toInt64.toInt = 3 := (by decide)
         refine o_iy X14 hx hby at_323 334 ((if0 _ _).trans (tlt ((lw_gt _ _).mpr (show ((3 : Int32).toInt64) < pq from Int64.lt_iff_toInt_lt.mpr (by omega)))).2.2.1) ?_
         refine o_aw X14 hx hby at_334 ?_
         refine o_aw X14 hx hby at_336 ?_
         refine o_ac X14 hx hby at_338 341 true (decide_eq_true rfl) ?_
         refine o_ic X14 hx hby 1 at_341 ?_
         refine o_gt X14 hx hby at_342 346 ?_
         exact κ₀ _ _ _ (X14.more (by decide) (by decide)) N14
set_option maxRecDepth 65536 in
set_option maxHeartbeats 40000000 in
theorem sg115 (l Z a0) (hw : oW a0 Z) (x0 : Int32) (x1 x3 : Int64) (x5 : Int32) (x6 : Int64) (M : Int32) (mb bd : Int64) (n1 n2 : Int32) (n3 nn : Int32) (pq : Int64) (aE1 aE2 : Addr) (aE3 aV : Addr) (aN aH : Addr) (aB1 aB2 : Addr) (aB3 aS aG : Addr) (by_ : Int64) (f : Nat → Value) (aR aL : Addr) (hv : Int64) (aD : Addr) (kD : ClassId) (fv : Nat → Value) (kN : ClassId) (h0 : Heap) (n0 : Nat) (Z0 : n0 ≤ h0.size) (P0 : own_Hi Z h0 aH M mb aS aG (0 : Int32) (0 : Int32) by_ (2 : Int64)) (P1 : own_RE Z h0 aG (0 : Int32) f) (P2 : own_Ev Z h0 aE1 aB1 (1 : Int64) n1) (P3 : own_Ev Z h0 aE2 aB2 (2 : Int64) n2) (P4 : own_Ev Z h0 aE3 aB3 (3 : Int64) n3) (P5 : own_Rm Z h0 aR aS aL aD bd hv (-1 : Int32) (0 : Int32)) (P6 : Old Z n0 h0) (P7 : Sta Z Z.heap "java/util/ArrayList" "DEFAULTCAPACITY_EMPTY_ELEMENTDATA" "[Ljava/lang/Object;" (.ref aD)) (P8 : Arv Z Z.heap aD kD (.object "java/lang/Object") (0 : Int32) [] .null) (P9 : n0 ≤ aH) (P10 : n0 ≤ aG) (P11 : n0 ≤ aR) (P12 : n0 ≤ aS) (P13 : n0 ≤ aL) (P14 : own_RE Z h0 aV (4 : Int32) fv) (P15 : fv (1 : Int32).toNatClampNeg = .ref aE1) (P16 : fv (2 : Int32).toNatClampNeg = .ref aE2) (P17 : fv (3 : Int32).toNatClampNeg = .ref aE3) (P18 : Arv Z h0 aN kN .int (4 : Int32) [(.int 0), (.int n1), (.int n2), (.int n3)] (.int 0)) (P19 : aV ≠ aG) (P20 : aN ≠ aH) (P21 : aN ≠ aG) (P22 : aN ≠ aR) (P23 : aN ≠ aS) (P24 : aN ≠ aL) (P25 : 0 ≤ M.toInt ∧ M.toInt ≤ 7) (P26 : 0 ≤ n1.toInt ∧ n1.toInt ≤ 7) (P27 : 0 ≤ n2.toInt ∧ n2.toInt ≤ 7) (P28 : 0 ≤ n3.toInt ∧ n3.toInt ≤ 7) (P29 : 0 ≤ nn.toInt ∧ nn.toInt ≤ 3) (P30 : 2 ≤ nn.toInt) (P31 : 0 ≤ mb.toInt) (P32 : by_.toInt = 0) (P33 : hv.toInt = 0) (P34 : ¬ (1 ≤ M.toInt ∧ n2.toInt ≤ mb.toInt ∧ n2.toInt + 128 ≤ bd.toInt))
   (hx : p.tables.exec = Jvm.exec) (hby : c.code = code) (hml : c.maxLocals = 28) (hZ : Z.Warmed39 s.vm) (hown : s.vm.findClass "com/example/lockstep/lockstep/session/HistoryGetPinLaw" = some m.cls)
   (X0 : Stand p l e room_1 s m #[(.int x0), (.long x1), (.long x3), (.int x5), (.long x6)] below meth c s₁ locs 34 213) (e0 : s₁.heap = h0) (N0 : Fr n0 locs)
   (κ₀ : ∀ (T' : State) (L' : List Loc) (Ls : Array Slot), Stand p l e room_1 s m #[(.int x0), (.long x1), (.long x3), (.int x5), (.long x6)] below meth c T' L' 40 256 → Fr n0 L' → oG p e below F₀ (T'.setTop (mkF m 346 Ls [(.int 1)]))) :
   oG p e below F₀ (s₁.setTop (mkF m 257 (TL x0 x1 x3 x5 x6 M mb bd n1 n2 n3 nn pq aE1 aE2 aE3 aV aN aH .unset .unset .unset) [])) := by
 refine o_iw X0 hx hby at_257 ?_
 refine o_ic X0 hx hby 3 at_259 ?_
 by_cases hc1 : nn < (3 : Int32)
 · refine o_cy X0 hx hby at_260 270 ((tlt hc1).1) ?_
   have := (Int32.lt_iff_toInt_lt.mp hc1)
   have : (3 : Int32).toInt = 3 := (by decide)
   have : (2 : Int32).toInt = 2 := (by decide)
   have hn2 : nn = (2 : Int32) := (show nn = (2 : Int32) from Int32.toInt_inj.mp (by omega))
   subst hn2
   exact sg108 l Z a0 hw x0 x1 x3 x5 x6 M mb bd n1 n2 n3 pq aE1 aE2 aE3 aV aN aH aS aG (0 : Int32) by_ fv kN h0 n0 Z0 P0 P14 P15 P16 P17 P18 P25 P26 P27 P28 P31 P34 hx hby hml hZ hown (X0.more (by decide) (by decide)) e0 N0 κ₀
 · refine o_cn X0 hx hby at_260 ((flt hc1).1) ?_
   refine o_aw X0 hx hby at_263 ?_
   refine o_aw X0 hx hby at_265 ?_
   by_cases hc3 : (1 ≤ M.toInt ∧ n3.toInt ≤ mb.toInt ∧ n3.toInt + 128 ≤ bd.toInt)
   · refine o_cV X0 hx hZ hown hw hml hby (rm79 l Z a0 hw [] aH aE3 M mb aS aG by_ (2 : Int64) f aB3 (3 : Int64) n3 aR aL bd hv aD kD h0 n0 Z0 P0 P1 P4 P5 P6 P7 P8 P9 P10 P11 P12 P13 P25 P28 P31 P32 P33 hc3) (P0.1) e0 121 122 124 123 125 28 0 at_267 [(.ref aE3)] [] pd_31 hy_9 fun v4 T4 L4 hQ4 X4 => ?_
     obtain ⟨aG25, aA26, fq7, byq8, hvq9, gq10, rfl, Nq4, Kq4, p4_0, p4_1, p4_2, p4_3, p4_4, p4_5, p4_6, p4_7, p4_8, p4_9⟩ := hQ4
     have N4 := Fr.app N0 Nq4
     have ne11 : aH ≠ aG25 := Nat.ne_of_lt (Nat.lt_of_lt_of_le (P0.1).lt p4_0)
     have ne12 : aG ≠ aG25 := Nat.ne_of_lt (Nat.lt_of_lt_of_le P1.lt p4_0)
     have ne13 : aE1 ≠ aG25 := Nat.ne_of_lt (Nat.lt_of_lt_of_le (P2.1).lt p4_0)
     have ne14 : aB1 ≠ aG25 := Nat.ne_of_lt (Nat.lt_of_lt_of_le (P2.2.2.2).lt p4_0)
     have ne15 : aE2 ≠ aG25 := Nat.ne_of_lt (Nat.lt_of_lt_of_le (P3.1).lt p4_0)
     have ne16 : aB2 ≠ aG25 := Nat.ne_of_lt (Nat.lt_of_lt_of_le (P3.2.2.2).lt p4_0)
     have ne17 : aE3 ≠ aG25 := Nat.ne_of_lt (Nat.lt_of_lt_of_le (P4.1).lt p4_0)
     have ne18 : aB3 ≠ aG25 := Nat.ne_of_lt (Nat.lt_of_lt_of_le (P4.2.2.2).lt p4_0)
     have ne19 : aR ≠ aG25 := Nat.ne_of_lt (Nat.lt_of_lt_of_le P5.exR.lt p4_0)
     have ne20 : aS ≠ aG25 := Nat.ne_of_lt (Nat.lt_of_lt_of_le P5.exS.lt p4_0)
     have ne21 : aL ≠ aG25 := Nat.ne_of_lt (Nat.lt_of_lt_of_le P5.exL.lt p4_0)
     have ne22 : aD ≠ aG25 := Nat.ne_of_lt (Nat.lt_of_lt_of_le (P8.ext P6.2).lt p4_0)
     have ne23 : aV ≠ aG25 := Nat.ne_of_lt (Nat.lt_of_lt_of_le P14.lt p4_0)
     have ne24 : aN ≠ aG25 := Nat.ne_of_lt (Nat.lt_of_lt_of_le P18.lt p4_0)
     have ge25 : n0 ≤ aG25 := Nat.le_trans Z0 p4_0
     have ne26 : aH ≠ aA26 := Nat.ne_of_lt (Nat.lt_of_lt_of_le (P0.1).lt p4_1)
     have ne27 : aG ≠ aA26 := Nat.ne_of_lt (Nat.lt_of_lt_of_le P1.lt p4_1)
     have ne28 : aE1 ≠ aA26 := Nat.ne_of_lt (Nat.lt_of_lt_of_le (P2.1).lt p4_1)
     have ne29 : aB1 ≠ aA26 := Nat.ne_of_lt (Nat.lt_of_lt_of_le (P2.2.2.2).lt p4_1)
     have ne30 : aE2 ≠ aA26 := Nat.ne_of_lt (Nat.lt_of_lt_of_le (P3.1).lt p4_1)
     have ne31 : aB2 ≠ aA26 := Nat.ne_of_lt (Nat.lt_of_lt_of_le (P3.2.2.2).lt p4_1)
     have ne32 : aE3 ≠ aA26 := Nat.ne_of_lt (Nat.lt_of_lt_of_le (P4.1).lt p4_1)
     have ne33 : aB3 ≠ aA26 := Nat.ne_of_lt (Nat.lt_of_lt_of_le (P4.2.2.2).lt p4_1)
     have ne34 : aR ≠ aA26 := Nat.ne_of_lt (Nat.lt_of_lt_of_le P5.exR.lt p4_1)
     have ne35 : aS ≠ aA26 := Nat.ne_of_lt (Nat.lt_of_lt_of_le P5.exS.lt p4_1)
     have ne36 : aL ≠ aA26 := Nat.ne_of_lt (Nat.lt_of_lt_of_le P5.exL.lt p4_1)
     have ne37 : aD ≠ aA26 := Nat.ne_of_lt (Nat.lt_of_lt_of_le (P8.ext P6.2).lt p4_1)
     have ne38 : aV ≠ aA26 := Nat.ne_of_lt (Nat.lt_of_lt_of_le P14.lt p4_1)
     have ne39 : aN ≠ aA26 := Nat.ne_of_lt (Nat.lt_of_lt_of_le P18.lt p4_1)
     have ge40 : n0 ≤ aA26 := Nat.le_trans Z0 p4_1
     have wx41 : own_exs Z _ [aH, aR, aS, aL] ocl_7 := ⟨(P0.1), P5.exR, P5.exS, P5.exL, trivial⟩
     have ni42 := own_nin P1.exa wx41 nc_16
     have f43 := P1.keep Kq4 ni42
     have ni44 := own_nin (P2.1) wx41 nc_17
     have ni45 := own_nin P2.exB wx41 nc_18
     have f46 := P2.keep Kq4 ni44 ni45
     have ni47 := own_nin (P3.1) wx41 nc_17
     have ni48 := own_nin P3.exB wx41 nc_18
     have f49 := P3.keep Kq4 ni47 ni48
     have ni50 := own_nin (P4.1) wx41 nc_17
     have ni51 := own_nin P4.exB wx41 nc_18
     have f52 := P4.keep Kq4 ni50 ni51
     have f53 := P6.keep Kq4 (allS P9 (allS P11 (allS P12 (allS P13 all0))))
     have ni54 := own_nin P14.exa wx41 nc_16
     have f55 := P14.keep Kq4 ni54
     have ni56 : aN ∉ [aH, aR, aS, aL] := (ninS P20 (ninS P22 (ninS P23 (ninS P24 nin0))))
     have f57 := P18.keep Kq4 ni56
     have z58 := Nat.le_trans Z0 Kq4.1
     refine oN ?_
     have := (mt Int32.lt_iff_toInt_lt.mpr hc1)
     have : (3 : Int32).toInt = 3 := (by decide)
     have hn59 : nn = (3 : Int32) := (show nn = (3 : Int32) from Int32.toInt_inj.mp (by omega))
     subst hn59
     have : (0 : Int32).toInt = 0 := (by decide)
     exact sg112 l Z a0 hw x0 x1 x3 x5 x6 M mb bd n1 n2 n3 pq aE1 aE2 aE3 aV aN aH aS aG25 (0 : Int32) byq8 fq7 fv kN T4.heap n0 z58 p4_2 p4_3 p4_4 f55 P15 P16 P17 f57 P25 (show 0 ≤ (0 : Int32).toInt ∧ (0 : Int32).toInt < M.toInt from by omega) P26 P27 P28 P31 hc3 (show ¬ (2 ≤ M.toInt ∧ n2.toInt + n3.toInt ≤ mb.toInt ∧ n2.toInt + n3.toInt + 256 ≤ bd.toInt) from by omega) hx hby hml hZ hown (X4.more (by decide) (by decide)) rfl N4 κ₀
   · refine o_cV X0 hx hZ hown hw hml hby (rm78 l Z a0 hw [] aH aE3 M mb aS aG by_ (2 : Int64) f aB3 (3 : Int64) n3 aR aL bd hv aD kD h0 n0 Z0 P0 P1 P4 P5 P6 P7 P8 P9 P10 P11 P12 P13 P25 P28 P31 P32 P33 hc3) (P0.1) e0 121 122 124 123 125 28 0 at_267 [(.ref aE3)] [] pd_31 hy_9 fun v60 T60 L60 hQ60 X60 => ?_
     obtain ⟨rfl, Nq60, Kq60, p60_0⟩ := hQ60
     have N60 := Fr.app N0 Nq60
     have ne61 := own_neE P1.exa (P0.1) ns_8
     have f62 := P1.keep Kq60 (ninS ne61 nin0)
     have ne63 := own_neE (P2.1) (P0.1) ns_15
     have ne64 := own_neE P2.exB (P0.1) ns_16
     have f65 := P2.keep Kq60 (ninS ne63 nin0) (ninS ne64 nin0)
     have ne66 := own_neE (P3.1) (P0.1) ns_15
     have ne67 := own_neE P3.exB (P0.1) ns_16
     have f68 := P3.keep Kq60 (ninS ne66 nin0) (ninS ne67 nin0)
     have ne69 := own_neE (P4.1) (P0.1) ns_15
     have ne70 := own_neE P4.exB (P0.1) ns_16
     have f71 := P4.keep Kq60 (ninS ne69 nin0) (ninS ne70 nin0)
     have ne72 := own_neE P5.exR (P0.1) ns_6
     have ne73 := own_neE P5.exS (P0.1) ns_17
     have ne74 := own_neE P5.exL (P0.1) (Ne.symm ns_7)
     have f75 := P5.keep Kq60 (ninS ne72 nin0) (ninS ne73 nin0) (ninS ne74 nin0)
     have f76 := P6.keep Kq60 (allS P9 all0)
     have ne77 := own_neE P14.exa (P0.1) ns_8
     have f78 := P14.keep Kq60 (ninS ne77 nin0)
     have f79 := P18.keep Kq60 (ninS P20 nin0)
     have z80 := Nat.le_trans Z0 Kq60.1
     refine oN ?_
     have := (mt Int32.lt_iff_toInt_lt.mpr hc1)
     have : (3 : Int32).toInt = 3 := (by decide)
     have hn81 : nn = (3 : Int32) := (show nn = (3 : Int32) from Int32.toInt_inj.mp (by omega))
     subst hn81
     exact sg111 l Z a0 hw x0 x1 x3 x5 x6 M mb bd n1 n2 n3 pq aE1 aE2 aE3 aV aN aH aS aG (0 : Int32) by_ fv kN T60.heap n0 z80 p60_0 f78 P15 P16 P17 f79 P25 P26 P27 P28 P31 hc3 hx hby hml hZ hown (X60.more (by decide) (by decide)) rfl N60 κ₀
set_option maxRecDepth 65536 in
set_option maxHeartbeats 40000000 in
theorem sg116 (l Z a0) (hw : oW a0 Z) (x0 : Int32) (x1 x3 : Int64) (x5 : Int32) (x6 : Int64) (M : Int32) (mb bd : Int64) (n1 n2 : Int32) (n3 nn : Int32) (pq : Int64) (aE1 aE2 : Addr) (aE3 aV : Addr) (aN aH : Addr) (aB1 aB2 : Addr) (aB3 aS aG : Addr) (hd : Int32) (by_ : Int64) (f : Nat → Value) (aR aL : Addr) (hv : Int64) (aA : Addr) (g fv : Nat → Value) (kN : ClassId) (h0 : Heap) (n0 : Nat) (Z0 : n0 ≤ h0.size) (P0 : own_Hi Z h0 aH M mb aS aG hd (0 : Int32) by_ (2 : Int64)) (P1 : own_RE Z h0 aG M f) (P2 : own_Ev Z h0 aE1 aB1 (1 : Int64) n1) (P3 : own_Ev Z h0 aE2 aB2 (2 : Int64) n2) (P4 : own_Ev Z h0 aE3 aB3 (3 : Int64) n3) (P5 : own_Rm Z h0 aR aS aL aA bd hv (-1 : Int32) (0 : Int32)) (P6 : own_RO Z h0 aA (10 : Int32) g) (P7 : n0 ≤ aH) (P8 : n0 ≤ aG) (P9 : n0 ≤ aR) (P10 : n0 ≤ aS) (P11 : n0 ≤ aL) (P12 : n0 ≤ aA) (P13 : own_RE Z h0 aV (4 : Int32) fv) (P14 : fv (1 : Int32).toNatClampNeg = .ref aE1) (P15 : fv (2 : Int32).toNatClampNeg = .ref aE2) (P16 : fv (3 : Int32).toNatClampNeg = .ref aE3) (P17 : Arv Z h0 aN kN .int (4 : Int32) [(.int 0), (.int n1), (.int n2), (.int n3)] (.int 0)) (P18 : aV ≠ aG) (P19 : aN ≠ aH) (P20 : aN ≠ aG) (P21 : aN ≠ aR) (P22 : aN ≠ aS) (P23 : aN ≠ aL) (P24 : aN ≠ aA) (P25 : 0 ≤ M.toInt ∧ M.toInt ≤ 7) (P26 : 0 ≤ hd.toInt ∧ hd.toInt < M.toInt) (P27 : 0 ≤ n1.toInt ∧ n1.toInt ≤ 7) (P28 : 0 ≤ n2.toInt ∧ n2.toInt ≤ 7) (P29 : 0 ≤ n3.toInt ∧ n3.toInt ≤ 7) (P30 : 0 ≤ nn.toInt ∧ nn.toInt ≤ 3) (P31 : 2 ≤ nn.toInt) (P32 : 0 ≤ mb.toInt) (P33 : by_.toInt = 0) (P34 : hv.toInt = 0) (P35 : ¬ (1 ≤ M.toInt ∧ n2.toInt ≤ mb.toInt ∧ n2.toInt + 128 ≤ bd.toInt))
   (hx : p.tables.exec = Jvm.exec) (hby : c.code = code) (hml : c.maxLocals = 28) (hZ : Z.Warmed39 s.vm) (hown : s.vm.findClass "com/example/lockstep/lockstep/session/HistoryGetPinLaw" = some m.cls)
   (X0 : Stand p l e room_1 s m #[(.int x0), (.long x1), (.long x3), (.int x5), (.long x6)] below meth c s₁ locs 34 213) (e0 : s₁.heap = h0) (N0 : Fr n0 locs)
   (κ₀ : ∀ (T' : State) (L' : List Loc) (Ls : Array Slot), Stand p l e room_1 s m #[(.int x0), (.long x1), (.long x3), (.int x5), (.long x6)] below meth c T' L' 40 256 → Fr n0 L' → oG p e below F₀ (T'.setTop (mkF m 346 Ls [(.int 1)]))) :
   oG p e below F₀ (s₁.setTop (mkF m 257 (TL x0 x1 x3 x5 x6 M mb bd n1 n2 n3 nn pq aE1 aE2 aE3 aV aN aH .unset .unset .unset) [])) := by
 refine o_iw X0 hx hby at_257 ?_
 refine o_ic X0 hx hby 3 at_259 ?_
 by_cases hc1 : nn < (3 : Int32)
 · refine o_cy X0 hx hby at_260 270 ((tlt hc1).1) ?_
   have := (Int32.lt_iff_toInt_lt.mp hc1)
   have : (3 : Int32).toInt = 3 := (by decide)
   have : (2 : Int32).toInt = 2 := (by decide)
   have hn2 : nn = (2 : Int32) := (show nn = (2 : Int32) from Int32.toInt_inj.mp (by omega))
   subst hn2
   exact sg108 l Z a0 hw x0 x1 x3 x5 x6 M mb bd n1 n2 n3 pq aE1 aE2 aE3 aV aN aH aS aG hd by_ fv kN h0 n0 Z0 P0 P13 P14 P15 P16 P17 P25 P27 P28 P29 P32 P35 hx hby hml hZ hown (X0.more (by decide) (by decide)) e0 N0 κ₀
 · refine o_cn X0 hx hby at_260 ((flt hc1).1) ?_
   refine o_aw X0 hx hby at_263 ?_
   refine o_aw X0 hx hby at_265 ?_
   by_cases hc3 : (1 ≤ M.toInt ∧ n3.toInt ≤ mb.toInt ∧ n3.toInt + 128 ≤ bd.toInt)
   · refine o_cV X0 hx hZ hown hw hml hby (rm81 l Z a0 hw [] aH aE3 M mb aS aG hd by_ (2 : Int64) f aB3 (3 : Int64) n3 aR aL bd hv aA g h0 n0 Z0 P0 P1 P4 P5 P6 P7 P8 P9 P10 P11 P12 P25 P26 P29 P32 P33 P34 hc3) (P0.1) e0 121 122 124 123 125 28 0 at_267 [(.ref aE3)] [] pd_31 hy_9 fun v4 T4 L4 hQ4 X4 => ?_
     obtain ⟨hdq5, fq6, byq7, hvq8, gq9, rfl, Nq4, Kq4, p4_0, p4_1, p4_2, p4_3, p4_4, p4_5, p4_6, p4_7, p4_8⟩ := hQ4
     have N4 := Fr.app N0 Nq4
     have wx10 : own_exs Z _ [aH, aG, aR, aS, aL, aA] ocl_6 := ⟨(P0.1), P1.exa, P5.exR, P5.exS, P5.exL, P6.exa, trivial⟩
     have ni11 := own_nin (P2.1) wx10 nc_14
     have ni12 := own_nin P2.exB wx10 nc_15
     have f13 := P2.keep Kq4 ni11 ni12
     have ni14 := own_nin (P3.1) wx10 nc_14
     have ni15 := own_nin P3.exB wx10 nc_15
     have f16 := P3.keep Kq4 ni14 ni15
     have ni17 := own_nin (P4.1) wx10 nc_14
     have ni18 := own_nin P4.exB wx10 nc_15
     have f19 := P4.keep Kq4 ni17 ni18
     have ne20 := own_neE P13.exa (P0.1) ns_8
     have ne21 := own_neE P13.exa P5.exR ns_11
     have ne22 := own_neE P13.exa P5.exS ns_12
     have ne23 := own_neE P13.exa P5.exL ns_13
     have ne24 := own_neE P13.exa P6.exa ns_14
     have ni25 : aV ∉ [aH, aG, aR, aS, aL, aA] := (ninS ne20 (ninS P18 (ninS ne21 (ninS ne22 (ninS ne23 (ninS ne24 nin0))))))
     have f26 := P13.keep Kq4 ni25
     have ni27 : aN ∉ [aH, aG, aR, aS, aL, aA] := (ninS P19 (ninS P20 (ninS P21 (ninS P22 (ninS P23 (ninS P24 nin0))))))
     have f28 := P17.keep Kq4 ni27
     have z29 := Nat.le_trans Z0 Kq4.1
     refine oN ?_
     have := (mt Int32.lt_iff_toInt_lt.mpr hc1)
     have : (3 : Int32).toInt = 3 := (by decide)
     have hn30 : nn = (3 : Int32) := (show nn = (3 : Int32) from Int32.toInt_inj.mp (by omega))
     subst hn30
     exact sg112 l Z a0 hw x0 x1 x3 x5 x6 M mb bd n1 n2 n3 pq aE1 aE2 aE3 aV aN aH aS aG hdq5 byq7 fq6 fv kN T4.heap n0 z29 p4_0 p4_1 p4_2 f26 P14 P15 P16 f28 P25 p4_6 P27 P28 P29 P32 hc3 (show ¬ (2 ≤ M.toInt ∧ n2.toInt + n3.toInt ≤ mb.toInt ∧ n2.toInt + n3.toInt + 256 ≤ bd.toInt) from by omega) hx hby hml hZ hown (X4.more (by decide) (by decide)) rfl N4 κ₀
   · refine o_cV X0 hx hZ hown hw hml hby (rm80 l Z a0 hw [] aH aE3 M mb aS aG hd by_ (2 : Int64) f aB3 (3 : Int64) n3 aR aL bd hv aA g h0 n0 Z0 P0 P1 P4 P5 P6 P7 P8 P9 P10 P11 P12 P25 P26 P29 P32 P33 P34 hc3) (P0.1) e0 121 122 124 123 125 28 0 at_267 [(.ref aE3)] [] pd_31 hy_9 fun v31 T31 L31 hQ31 X31 => ?_
     obtain ⟨hdq32, fq33, byq34, hvq35, gq36, rfl, Nq31, Kq31, p31_0, p31_1, p31_2, p31_3, p31_4, p31_5, p31_6⟩ := hQ31
     have N31 := Fr.app N0 Nq31
     have wx37 : own_exs Z _ [aH, aG, aR, aS, aL, aA] ocl_6 := ⟨(P0.1), P1.exa, P5.exR, P5.exS, P5.exL, P6.exa, trivial⟩
     have ni38 := own_nin (P2.1) wx37 nc_14
     have ni39 := own_nin P2.exB wx37 nc_15
     have f40 := P2.keep Kq31 ni38 ni39
     have ni41 := own_nin (P3.1) wx37 nc_14
     have ni42 := own_nin P3.exB wx37 nc_15
     have f43 := P3.keep Kq31 ni41 ni42
     have ni44 := own_nin (P4.1) wx37 nc_14
     have ni45 := own_nin P4.exB wx37 nc_15
     have f46 := P4.keep Kq31 ni44 ni45
     have ne47 := own_neE P13.exa (P0.1) ns_8
     have ne48 := own_neE P13.exa P5.exR ns_11
     have ne49 := own_neE P13.exa P5.exS ns_12
     have ne50 := own_neE P13.exa P5.exL ns_13
     have ne51 := own_neE P13.exa P6.exa ns_14
     have ni52 : aV ∉ [aH, aG, aR, aS, aL, aA] := (ninS ne47 (ninS P18 (ninS ne48 (ninS ne49 (ninS ne50 (ninS ne51 nin0))))))
     have f53 := P13.keep Kq31 ni52
     have ni54 : aN ∉ [aH, aG, aR, aS, aL, aA] := (ninS P19 (ninS P20 (ninS P21 (ninS P22 (ninS P23 (ninS P24 nin0))))))
     have f55 := P17.keep Kq31 ni54
     have z56 := Nat.le_trans Z0 Kq31.1
     refine oN ?_
     have := (mt Int32.lt_iff_toInt_lt.mpr hc1)
     have : (3 : Int32).toInt = 3 := (by decide)
     have hn57 : nn = (3 : Int32) := (show nn = (3 : Int32) from Int32.toInt_inj.mp (by omega))
     subst hn57
     exact sg111 l Z a0 hw x0 x1 x3 x5 x6 M mb bd n1 n2 n3 pq aE1 aE2 aE3 aV aN aH aS aG hdq32 byq34 fv kN T31.heap n0 z56 p31_0 f53 P14 P15 P16 f55 P25 P27 P28 P29 P32 hc3 hx hby hml hZ hown (X31.more (by decide) (by decide)) rfl N31 κ₀
set_option maxRecDepth 65536 in
set_option maxHeartbeats 40000000 in
theorem sg117 (l Z a0) (hw : oW a0 Z) (x0 : Int32) (x1 x3 : Int64) (x5 : Int32) (x6 : Int64) (M : Int32) (mb bd : Int64) (n1 n2 : Int32) (n3 nn : Int32) (pq : Int64) (aE1 aE2 : Addr) (aE3 aV : Addr) (aN aH : Addr) (aB1 aB2 : Addr) (aB3 aS aG : Addr) (hd : Int32) (by_ : Int64) (f : Nat → Value) (aR aL : Addr) (hv : Int64) (aA : Addr) (g fv : Nat → Value) (kN : ClassId) (h0 : Heap) (n0 : Nat) (Z0 : n0 ≤ h0.size) (P0 : own_Hi Z h0 aH M mb aS aG hd (1 : Int32) by_ (2 : Int64)) (P1 : own_RE Z h0 aG M f) (P2 : f hd.toNatClampNeg = .ref aE2) (P3 : own_Ev Z h0 aE1 aB1 (1 : Int64) n1) (P4 : own_Ev Z h0 aE2 aB2 (2 : Int64) n2) (P5 : own_Ev Z h0 aE3 aB3 (3 : Int64) n3) (P6 : own_Rm Z h0 aR aS aL aA bd hv (0 : Int32) (1 : Int32)) (P7 : own_RO Z h0 aA (10 : Int32) g) (P8 : g (0 : Int32).toNatClampNeg = .ref aS) (P9 : n0 ≤ aH) (P10 : n0 ≤ aG) (P11 : n0 ≤ aR) (P12 : n0 ≤ aS) (P13 : n0 ≤ aL) (P14 : n0 ≤ aA) (P15 : own_RE Z h0 aV (4 : Int32) fv) (P16 : fv (1 : Int32).toNatClampNeg = .ref aE1) (P17 : fv (2 : Int32).toNatClampNeg = .ref aE2) (P18 : fv (3 : Int32).toNatClampNeg = .ref aE3) (P19 : Arv Z h0 aN kN .int (4 : Int32) [(.int 0), (.int n1), (.int n2), (.int n3)] (.int 0)) (P20 : aV ≠ aG) (P21 : aN ≠ aH) (P22 : aN ≠ aG) (P23 : aN ≠ aR) (P24 : aN ≠ aS) (P25 : aN ≠ aL) (P26 : aN ≠ aA) (P27 : 0 ≤ M.toInt ∧ M.toInt ≤ 7) (P28 : 0 ≤ hd.toInt ∧ hd.toInt < M.toInt) (P29 : 0 ≤ n1.toInt ∧ n1.toInt ≤ 7) (P30 : 0 ≤ n2.toInt ∧ n2.toInt ≤ 7) (P31 : 0 ≤ n3.toInt ∧ n3.toInt ≤ 7) (P32 : 0 ≤ nn.toInt ∧ nn.toInt ≤ 3) (P33 : 2 ≤ nn.toInt) (P34 : 0 ≤ mb.toInt) (P35 : by_.toInt = n2.toInt) (P36 : hv.toInt = n2.toInt + 128) (P37 : (1 ≤ M.toInt ∧ n2.toInt ≤ mb.toInt ∧ n2.toInt + 128 ≤ bd.toInt)) (P38 : ¬ (2 ≤ M.toInt ∧ n1.toInt + n2.toInt ≤ mb.toInt ∧ n1.toInt + n2.toInt + 256 ≤ bd.toInt))
   (hx : p.tables.exec = Jvm.exec) (hby : c.code = code) (hml : c.maxLocals = 28) (hZ : Z.Warmed39 s.vm) (hown : s.vm.findClass "com/example/lockstep/lockstep/session/HistoryGetPinLaw" = some m.cls)
   (X0 : Stand p l e room_1 s m #[(.int x0), (.long x1), (.long x3), (.int x5), (.long x6)] below meth c s₁ locs 34 213) (e0 : s₁.heap = h0) (N0 : Fr n0 locs)
   (κ₀ : ∀ (T' : State) (L' : List Loc) (Ls : Array Slot), Stand p l e room_1 s m #[(.int x0), (.long x1), (.long x3), (.int x5), (.long x6)] below meth c T' L' 40 256 → Fr n0 L' → oG p e below F₀ (T'.setTop (mkF m 346 Ls [(.int 1)]))) :
   oG p e below F₀ (s₁.setTop (mkF m 257 (TL x0 x1 x3 x5 x6 M mb bd n1 n2 n3 nn pq aE1 aE2 aE3 aV aN aH .unset .unset .unset) [])) := by
 refine o_iw X0 hx hby at_257 ?_
 refine o_ic X0 hx hby 3 at_259 ?_
 by_cases hc1 : nn < (3 : Int32)
 · refine o_cy X0 hx hby at_260 270 ((tlt hc1).1) ?_
   have := (Int32.lt_iff_toInt_lt.mp hc1)
   have : (3 : Int32).toInt = 3 := (by decide)
   have : (2 : Int32).toInt = 2 := (by decide)
   have hn2 : nn = (2 : Int32) := (show nn = (2 : Int32) from Int32.toInt_inj.mp (by omega))
   subst hn2
   exact sg109 l Z a0 hw x0 x1 x3 x5 x6 M mb bd n1 n2 n3 pq aE1 aE2 aE3 aV aN aH aS aG hd by_ f fv kN h0 n0 Z0 P0 P1 P2 P15 P16 P17 P18 P19 P27 P28 P29 P30 P31 P34 P37 P38 hx hby hml hZ hown (X0.more (by decide) (by decide)) e0 N0 κ₀
 · refine o_cn X0 hx hby at_260 ((flt hc1).1) ?_
   refine o_aw X0 hx hby at_263 ?_
   refine o_aw X0 hx hby at_265 ?_
   by_cases hc3 : (1 ≤ M.toInt ∧ n3.toInt ≤ mb.toInt ∧ n3.toInt + 128 ≤ bd.toInt)
   · by_cases hc4 : (2 ≤ M.toInt ∧ n2.toInt + n3.toInt ≤ mb.toInt ∧ n2.toInt + n3.toInt + 256 ≤ bd.toInt)
     · have := (mt Int32.lt_iff_toInt_lt.mpr hc1)
       have : (3 : Int32).toInt = 3 := (by decide)
       refine o_cV X0 hx hZ hown hw hml hby (rm84 l Z a0 hw [] aH aE3 M mb aS aG hd by_ (2 : Int64) f aE2 aB2 (2 : Int64) n2 aB3 (3 : Int64) n3 aR aL bd hv aA g h0 n0 Z0 P0 P1 P2 P4 P5 P6 P7 P8 P9 P10 P11 P12 P13 P14 P27 P28 P30 P31 P34 P35 P36 (show 1 ≤ M.toInt from by omega) hc4) (P0.1) e0 121 122 124 123 125 28 0 at_267 [(.ref aE3)] [] pd_31 hy_9 fun v5 T5 L5 hQ5 X5 => ?_
       obtain ⟨hdq6, fq7, byq8, hvq9, gq10, rfl, Nq5, Kq5, p5_0, p5_1, p5_2, p5_3, p5_4, p5_5, p5_6, p5_7, p5_8, p5_9⟩ := hQ5
       have N5 := Fr.app N0 Nq5
       have wx11 : own_exs Z _ [aH, aG, aR, aS, aL, aA] ocl_6 := ⟨(P0.1), P1.exa, P6.exR, P6.exS, P6.exL, P7.exa, trivial⟩
       have ni12 := own_nin (P3.1) wx11 nc_14
       have ni13 := own_nin P3.exB wx11 nc_15
       have f14 := P3.keep Kq5 ni12 ni13
       have ni15 := own_nin (P4.1) wx11 nc_14
       have ni16 := own_nin P4.exB wx11 nc_15
       have f17 := P4.keep Kq5 ni15 ni16
       have ni18 := own_nin (P5.1) wx11 nc_14
       have ni19 := own_nin P5.exB wx11 nc_15
       have f20 := P5.keep Kq5 ni18 ni19
       have ne21 := own_neE P15.exa (P0.1) ns_8
       have ne22 := own_neE P15.exa P6.exR ns_11
       have ne23 := own_neE P15.exa P6.exS ns_12
       have ne24 := own_neE P15.exa P6.exL ns_13
       have ne25 := own_neE P15.exa P7.exa ns_14
       have ni26 : aV ∉ [aH, aG, aR, aS, aL, aA] := (ninS ne21 (ninS P20 (ninS ne22 (ninS ne23 (ninS ne24 (ninS ne25 nin0))))))
       have f27 := P15.keep Kq5 ni26
       have ni28 : aN ∉ [aH, aG, aR, aS, aL, aA] := (ninS P21 (ninS P22 (ninS P23 (ninS P24 (ninS P25 (ninS P26 nin0))))))
       have f29 := P19.keep Kq5 ni28
       have z30 := Nat.le_trans Z0 Kq5.1
       refine oN ?_
       have hn31 : nn = (3 : Int32) := (show nn = (3 : Int32) from Int32.toInt_inj.mp (by omega))
       subst hn31
       exact sg113 l Z a0 hw x0 x1 x3 x5 x6 M mb bd n1 n2 n3 pq aE1 aE2 aE3 aV aN aH aS aG hdq6 byq8 fq7 fv kN T5.heap n0 z30 p5_0 p5_1 p5_2 p5_3 f27 P16 P17 P18 f29 P27 p5_7 P29 P30 P31 P34 hc4 (show ¬ (3 ≤ M.toInt ∧ n1.toInt + n2.toInt + n3.toInt ≤ mb.toInt ∧ n1.toInt + n2.toInt + n3.toInt + 384 ≤ bd.toInt) from by omega) hx hby hml hZ hown (X5.more (by decide) (by decide)) rfl N5 κ₀
     · have := (mt Int32.lt_iff_toInt_lt.mpr hc1)
       have : (3 : Int32).toInt = 3 := (by decide)
       refine o_cV X0 hx hZ hown hw hml hby (rm83 l Z a0 hw [] aH aE3 M mb aS aG hd by_ (2 : Int64) f aE2 aB2 (2 : Int64) n2 aB3 (3 : Int64) n3 aR aL bd hv aA g h0 n0 Z0 P0 P1 P2 P4 P5 P6 P7 P8 P9 P10 P11 P12 P13 P14 P27 P28 P30 P31 P34 P35 P36 (show 1 ≤ M.toInt from by omega) hc3 hc4) (P0.1) e0 121 122 124 123 125 28 0 at_267 [(.ref aE3)] [] pd_31 hy_9 fun v32 T32 L32 hQ32 X32 => ?_
       obtain ⟨hdq33, fq34, byq35, hvq36, gq37, rfl, Nq32, Kq32, p32_0, p32_1, p32_2, p32_3, p32_4, p32_5, p32_6, p32_7, p32_8⟩ := hQ32
       have N32 := Fr.app N0 Nq32
       have wx38 : own_exs Z _ [aH, aG, aR, aS, aL, aA] ocl_6 := ⟨(P0.1), P1.exa, P6.exR, P6.exS, P6.exL, P7.exa, trivial⟩
       have ni39 := own_nin (P3.1) wx38 nc_14
       have ni40 := own_nin P3.exB wx38 nc_15
       have f41 := P3.keep Kq32 ni39 ni40
       have ni42 := own_nin (P4.1) wx38 nc_14
       have ni43 := own_nin P4.exB wx38 nc_15
       have f44 := P4.keep Kq32 ni42 ni43
       have ni45 := own_nin (P5.1) wx38 nc_14
       have ni46 := own_nin P5.exB wx38 nc_15
       have f47 := P5.keep Kq32 ni45 ni46
       have ne48 := own_neE P15.exa (P0.1) ns_8
       have ne49 := own_neE P15.exa P6.exR ns_11
       have ne50 := own_neE P15.exa P6.exS ns_12
       have ne51 := own_neE P15.exa P6.exL ns_13
       have ne52 := own_neE P15.exa P7.exa ns_14
       have ni53 : aV ∉ [aH, aG, aR, aS, aL, aA] := (ninS ne48 (ninS P20 (ninS ne49 (ninS ne50 (ninS ne51 (ninS ne52 nin0))))))
       have f54 := P15.keep Kq32 ni53
       have ni55 : aN ∉ [aH, aG, aR, aS, aL, aA] := (ninS P21 (ninS P22 (ninS P23 (ninS P24 (ninS P25 (ninS P26 nin0))))))
       have f56 := P19.keep Kq32 ni55
       have z57 := Nat.le_trans Z0 Kq32.1
       refine oN ?_
       have hn58 : nn = (3 : Int32) := (show nn = (3 : Int32) from Int32.toInt_inj.mp (by omega))
       subst hn58
       exact sg112 l Z a0 hw x0 x1 x3 x5 x6 M mb bd n1 n2 n3 pq aE1 aE2 aE3 aV aN aH aS aG hdq33 byq35 fq34 fv kN T32.heap n0 z57 p32_0 p32_1 p32_2 f54 P16 P17 P18 f56 P27 p32_6 P29 P30 P31 P34 hc3 hc4 hx hby hml hZ hown (X32.more (by decide) (by decide)) rfl N32 κ₀
   · have := (mt Int32.lt_iff_toInt_lt.mpr hc1)
     have : (3 : Int32).toInt = 3 := (by decide)
     refine o_cV X0 hx hZ hown hw hml hby (rm82 l Z a0 hw [] aH aE3 M mb aS aG hd by_ (2 : Int64) f aE2 aB2 (2 : Int64) n2 aB3 (3 : Int64) n3 aR aL bd hv aA g h0 n0 Z0 P0 P1 P2 P4 P5 P6 P7 P8 P9 P10 P11 P12 P13 P14 P27 P28 P30 P31 P34 P35 P36 (show 1 ≤ M.toInt from by omega) hc3) (P0.1) e0 121 122 124 123 125 28 0 at_267 [(.ref aE3)] [] pd_31 hy_9 fun v59 T59 L59 hQ59 X59 => ?_
     obtain ⟨hdq60, fq61, byq62, hvq63, gq64, rfl, Nq59, Kq59, p59_0, p59_1, p59_2, p59_3, p59_4, p59_5, p59_6⟩ := hQ59
     have N59 := Fr.app N0 Nq59
     have wx65 : own_exs Z _ [aH, aG, aR, aS, aL, aA] ocl_6 := ⟨(P0.1), P1.exa, P6.exR, P6.exS, P6.exL, P7.exa, trivial⟩
     have ni66 := own_nin (P3.1) wx65 nc_14
     have ni67 := own_nin P3.exB wx65 nc_15
     have f68 := P3.keep Kq59 ni66 ni67
     have ni69 := own_nin (P4.1) wx65 nc_14
     have ni70 := own_nin P4.exB wx65 nc_15
     have f71 := P4.keep Kq59 ni69 ni70
     have ni72 := own_nin (P5.1) wx65 nc_14
     have ni73 := own_nin P5.exB wx65 nc_15
     have f74 := P5.keep Kq59 ni72 ni73
     have ne75 := own_neE P15.exa (P0.1) ns_8
     have ne76 := own_neE P15.exa P6.exR ns_11
     have ne77 := own_neE P15.exa P6.exS ns_12
     have ne78 := own_neE P15.exa P6.exL ns_13
     have ne79 := own_neE P15.exa P7.exa ns_14
     have ni80 : aV ∉ [aH, aG, aR, aS, aL, aA] := (ninS ne75 (ninS P20 (ninS ne76 (ninS ne77 (ninS ne78 (ninS ne79 nin0))))))
     have f81 := P15.keep Kq59 ni80
     have ni82 : aN ∉ [aH, aG, aR, aS, aL, aA] := (ninS P21 (ninS P22 (ninS P23 (ninS P24 (ninS P25 (ninS P26 nin0))))))
     have f83 := P19.keep Kq59 ni82
     have z84 := Nat.le_trans Z0 Kq59.1
     refine oN ?_
     have hn85 : nn = (3 : Int32) := (show nn = (3 : Int32) from Int32.toInt_inj.mp (by omega))
     subst hn85
     exact sg111 l Z a0 hw x0 x1 x3 x5 x6 M mb bd n1 n2 n3 pq aE1 aE2 aE3 aV aN aH aS aG hdq60 byq62 fv kN T59.heap n0 z84 p59_0 f81 P16 P17 P18 f83 P27 P29 P30 P31 P34 hc3 hx hby hml hZ hown (X59.more (by decide) (by decide)) rfl N59 κ₀
set_option maxRecDepth 65536 in
set_option maxHeartbeats 40000000 in
theorem sg118 (l Z a0) (hw : oW a0 Z) (x0 : Int32) (x1 x3 : Int64) (x5 : Int32) (x6 : Int64) (M : Int32) (mb bd : Int64) (n1 n2 : Int32) (n3 nn : Int32) (pq : Int64) (aE1 aE2 : Addr) (aE3 aV : Addr) (aN aH : Addr) (aB1 aB2 : Addr) (aB3 aS aG : Addr) (hd : Int32) (by_ : Int64) (f : Nat → Value) (aR aL : Addr) (hv : Int64) (aA : Addr) (g fv : Nat → Value) (kN : ClassId) (h0 : Heap) (n0 : Nat) (Z0 : n0 ≤ h0.size) (P0 : own_Hi Z h0 aH M mb aS aG hd (2 : Int32) by_ (2 : Int64)) (P1 : own_RE Z h0 aG M f) (P2 : f hd.toNatClampNeg = .ref aE1) (P3 : f ((hd + (1 : Int32)) % M).toNatClampNeg = .ref aE2) (P4 : own_Ev Z h0 aE1 aB1 (1 : Int64) n1) (P5 : own_Ev Z h0 aE2 aB2 (2 : Int64) n2) (P6 : own_Ev Z h0 aE3 aB3 (3 : Int64) n3) (P7 : own_Rm Z h0 aR aS aL aA bd hv (0 : Int32) (1 : Int32)) (P8 : own_RO Z h0 aA (10 : Int32) g) (P9 : g (0 : Int32).toNatClampNeg = .ref aS) (P10 : n0 ≤ aH) (P11 : n0 ≤ aG) (P12 : n0 ≤ aR) (P13 : n0 ≤ aS) (P14 : n0 ≤ aL) (P15 : n0 ≤ aA) (P16 : own_RE Z h0 aV (4 : Int32) fv) (P17 : fv (1 : Int32).toNatClampNeg = .ref aE1) (P18 : fv (2 : Int32).toNatClampNeg = .ref aE2) (P19 : fv (3 : Int32).toNatClampNeg = .ref aE3) (P20 : Arv Z h0 aN kN .int (4 : Int32) [(.int 0), (.int n1), (.int n2), (.int n3)] (.int 0)) (P21 : aV ≠ aG) (P22 : aN ≠ aH) (P23 : aN ≠ aG) (P24 : aN ≠ aR) (P25 : aN ≠ aS) (P26 : aN ≠ aL) (P27 : aN ≠ aA) (P28 : 0 ≤ M.toInt ∧ M.toInt ≤ 7) (P29 : 0 ≤ hd.toInt ∧ hd.toInt < M.toInt) (P30 : 0 ≤ n1.toInt ∧ n1.toInt ≤ 7) (P31 : 0 ≤ n2.toInt ∧ n2.toInt ≤ 7) (P32 : 0 ≤ n3.toInt ∧ n3.toInt ≤ 7) (P33 : 0 ≤ nn.toInt ∧ nn.toInt ≤ 3) (P34 : 2 ≤ nn.toInt) (P35 : 0 ≤ mb.toInt) (P36 : by_.toInt = n1.toInt + n2.toInt) (P37 : hv.toInt = n1.toInt + n2.toInt + 256) (P38 : (2 ≤ M.toInt ∧ n1.toInt + n2.toInt ≤ mb.toInt ∧ n1.toInt + n2.toInt + 256 ≤ bd.toInt))
   (hx : p.tables.exec = Jvm.exec) (hby : c.code = code) (hml : c.maxLocals = 28) (hZ : Z.Warmed39 s.vm) (hown : s.vm.findClass "com/example/lockstep/lockstep/session/HistoryGetPinLaw" = some m.cls)
   (X0 : Stand p l e room_1 s m #[(.int x0), (.long x1), (.long x3), (.int x5), (.long x6)] below meth c s₁ locs 34 213) (e0 : s₁.heap = h0) (N0 : Fr n0 locs)
   (κ₀ : ∀ (T' : State) (L' : List Loc) (Ls : Array Slot), Stand p l e room_1 s m #[(.int x0), (.long x1), (.long x3), (.int x5), (.long x6)] below meth c T' L' 40 256 → Fr n0 L' → oG p e below F₀ (T'.setTop (mkF m 346 Ls [(.int 1)]))) :
   oG p e below F₀ (s₁.setTop (mkF m 257 (TL x0 x1 x3 x5 x6 M mb bd n1 n2 n3 nn pq aE1 aE2 aE3 aV aN aH .unset .unset .unset) [])) := by
 refine o_iw X0 hx hby at_257 ?_
 refine o_ic X0 hx hby 3 at_259 ?_
 by_cases hc1 : nn < (3 : Int32)
 · refine o_cy X0 hx hby at_260 270 ((tlt hc1).1) ?_
   have := (Int32.lt_iff_toInt_lt.mp hc1)
   have : (3 : Int32).toInt = 3 := (by decide)
   have : (2 : Int32).toInt = 2 := (by decide)
   have hn2 : nn = (2 : Int32) := (show nn = (2 : Int32) from Int32.toInt_inj.mp (by omega))
   subst hn2
   exact sg110 l Z a0 hw x0 x1 x3 x5 x6 M mb bd n1 n2 n3 pq aE1 aE2 aE3 aV aN aH aS aG hd by_ f fv kN h0 n0 Z0 P0 P1 P2 P3 P16 P17 P18 P19 P20 P28 P29 P30 P31 P32 P35 P38 hx hby hml hZ hown (X0.more (by decide) (by decide)) e0 N0 κ₀
 · refine o_cn X0 hx hby at_260 ((flt hc1).1) ?_
   refine o_aw X0 hx hby at_263 ?_
   refine o_aw X0 hx hby at_265 ?_
   by_cases hc3 : (1 ≤ M.toInt ∧ n3.toInt ≤ mb.toInt ∧ n3.toInt + 128 ≤ bd.toInt)
   · by_cases hc4 : (2 ≤ M.toInt ∧ n2.toInt + n3.toInt ≤ mb.toInt ∧ n2.toInt + n3.toInt + 256 ≤ bd.toInt)
     · by_cases hc5 : (3 ≤ M.toInt ∧ n1.toInt + n2.toInt + n3.toInt ≤ mb.toInt ∧ n1.toInt + n2.toInt + n3.toInt + 384 ≤ bd.toInt)
       · have := (mt Int32.lt_iff_toInt_lt.mpr hc1)
         have : (3 : Int32).toInt = 3 := (by decide)
         refine o_cV X0 hx hZ hown hw hml hby (rm88 l Z a0 hw [] aH aE3 M mb aS aG hd by_ (2 : Int64) f aE1 aB1 (1 : Int64) n1 aE2 aB2 (2 : Int64) n2 aB3 (3 : Int64) n3 aR aL bd hv aA g h0 n0 Z0 P0 P1 P2 P3 P4 P5 P6 P7 P8 P9 P10 P11 P12 P13 P14 P15 P28 P29 P30 P31 P32 P35 P36 P37 (show 2 ≤ M.toInt from by omega) hc5) (P0.1) e0 121 122 124 123 125 28 0 at_267 [(.ref aE3)] [] pd_31 hy_9 fun v6 T6 L6 hQ6 X6 => ?_
         obtain ⟨hdq7, fq8, byq9, hvq10, gq11, rfl, Nq6, Kq6, p6_0, p6_1, p6_2, p6_3, p6_4, p6_5, p6_6, p6_7, p6_8, p6_9, p6_10⟩ := hQ6
         have N6 := Fr.app N0 Nq6
         have wx12 : own_exs Z _ [aH, aG, aR, aS, aL, aA] ocl_6 := ⟨(P0.1), P1.exa, P7.exR, P7.exS, P7.exL, P8.exa, trivial⟩
         have ni13 := own_nin (P4.1) wx12 nc_14
         have ni14 := own_nin P4.exB wx12 nc_15
         have f15 := P4.keep Kq6 ni13 ni14
         have ni16 := own_nin (P5.1) wx12 nc_14
         have ni17 := own_nin P5.exB wx12 nc_15
         have f18 := P5.keep Kq6 ni16 ni17
         have ni19 := own_nin (P6.1) wx12 nc_14
         have ni20 := own_nin P6.exB wx12 nc_15
         have f21 := P6.keep Kq6 ni19 ni20
         have ne22 := own_neE P16.exa (P0.1) ns_8
         have ne23 := own_neE P16.exa P7.exR ns_11
         have ne24 := own_neE P16.exa P7.exS ns_12
         have ne25 := own_neE P16.exa P7.exL ns_13
         have ne26 := own_neE P16.exa P8.exa ns_14
         have ni27 : aV ∉ [aH, aG, aR, aS, aL, aA] := (ninS ne22 (ninS P21 (ninS ne23 (ninS ne24 (ninS ne25 (ninS ne26 nin0))))))
         have f28 := P16.keep Kq6 ni27
         have ni29 : aN ∉ [aH, aG, aR, aS, aL, aA] := (ninS P22 (ninS P23 (ninS P24 (ninS P25 (ninS P26 (ninS P27 nin0))))))
         have f30 := P20.keep Kq6 ni29
         have z31 := Nat.le_trans Z0 Kq6.1
         refine oN ?_
         have hn32 : nn = (3 : Int32) := (show nn = (3 : Int32) from Int32.toInt_inj.mp (by omega))
         subst hn32
         exact sg114 l Z a0 hw x0 x1 x3 x5 x6 M mb bd n1 n2 n3 pq aE1 aE2 aE3 aV aN aH aS aG hdq7 byq9 fq8 fv kN T6.heap n0 z31 p6_0 p6_1 p6_2 p6_3 p6_4 f28 P17 P18 P19 f30 P28 p6_8 P30 P31 P32 P35 hc5 hx hby hml hZ hown (X6.more (by decide) (by decide)) rfl N6 κ₀
       · have := (mt Int32.lt_iff_toInt_lt.mpr hc1)
         have : (3 : Int32).toInt = 3 := (by decide)
         refine o_cV X0 hx hZ hown hw hml hby (rm87 l Z a0 hw [] aH aE3 M mb aS aG hd by_ (2 : Int64) f aE1 aB1 (1 : Int64) n1 aE2 aB2 (2 : Int64) n2 aB3 (3 : Int64) n3 aR aL bd hv aA g h0 n0 Z0 P0 P1 P2 P3 P4 P5 P6 P7 P8 P9 P10 P11 P12 P13 P14 P15 P28 P29 P30 P31 P32 P35 P36 P37 (show 2 ≤ M.toInt from by omega) hc4 hc5) (P0.1) e0 121 122 124 123 125 28 0 at_267 [(.ref aE3)] [] pd_31 hy_9 fun v33 T33 L33 hQ33 X33 => ?_
         obtain ⟨hdq34, fq35, byq36, hvq37, gq38, rfl, Nq33, Kq33, p33_0, p33_1, p33_2, p33_3, p33_4, p33_5, p33_6, p33_7, p33_8, p33_9⟩ := hQ33
         have N33 := Fr.app N0 Nq33
         have wx39 : own_exs Z _ [aH, aG, aR, aS, aL, aA] ocl_6 := ⟨(P0.1), P1.exa, P7.exR, P7.exS, P7.exL, P8.exa, trivial⟩
         have ni40 := own_nin (P4.1) wx39 nc_14
         have ni41 := own_nin P4.exB wx39 nc_15
         have f42 := P4.keep Kq33 ni40 ni41
         have ni43 := own_nin (P5.1) wx39 nc_14
         have ni44 := own_nin P5.exB wx39 nc_15
         have f45 := P5.keep Kq33 ni43 ni44
         have ni46 := own_nin (P6.1) wx39 nc_14
         have ni47 := own_nin P6.exB wx39 nc_15
         have f48 := P6.keep Kq33 ni46 ni47
         have ne49 := own_neE P16.exa (P0.1) ns_8
         have ne50 := own_neE P16.exa P7.exR ns_11
         have ne51 := own_neE P16.exa P7.exS ns_12
         have ne52 := own_neE P16.exa P7.exL ns_13
         have ne53 := own_neE P16.exa P8.exa ns_14
         have ni54 : aV ∉ [aH, aG, aR, aS, aL, aA] := (ninS ne49 (ninS P21 (ninS ne50 (ninS ne51 (ninS ne52 (ninS ne53 nin0))))))
         have f55 := P16.keep Kq33 ni54
         have ni56 : aN ∉ [aH, aG, aR, aS, aL, aA] := (ninS P22 (ninS P23 (ninS P24 (ninS P25 (ninS P26 (ninS P27 nin0))))))
         have f57 := P20.keep Kq33 ni56
         have z58 := Nat.le_trans Z0 Kq33.1
         refine oN ?_
         have hn59 : nn = (3 : Int32) := (show nn = (3 : Int32) from Int32.toInt_inj.mp (by omega))
         subst hn59
         exact sg113 l Z a0 hw x0 x1 x3 x5 x6 M mb bd n1 n2 n3 pq aE1 aE2 aE3 aV aN aH aS aG hdq34 byq36 fq35 fv kN T33.heap n0 z58 p33_0 p33_1 p33_2 p33_3 f55 P17 P18 P19 f57 P28 p33_7 P30 P31 P32 P35 hc4 hc5 hx hby hml hZ hown (X33.more (by decide) (by decide)) rfl N33 κ₀
     · have := (mt Int32.lt_iff_toInt_lt.mpr hc1)
       have : (3 : Int32).toInt = 3 := (by decide)
       refine o_cV X0 hx hZ hown hw hml hby (rm86 l Z a0 hw [] aH aE3 M mb aS aG hd by_ (2 : Int64) f aE1 aB1 (1 : Int64) n1 aE2 aB2 (2 : Int64) n2 aB3 (3 : Int64) n3 aR aL bd hv aA g h0 n0 Z0 P0 P1 P2 P3 P4 P5 P6 P7 P8 P9 P10 P11 P12 P13 P14 P15 P28 P29 P30 P31 P32 P35 P36 P37 (show 2 ≤ M.toInt from by omega) hc3 hc4) (P0.1) e0 121 122 124 123 125 28 0 at_267 [(.ref aE3)] [] pd_31 hy_9 fun v60 T60 L60 hQ60 X60 => ?_
       obtain ⟨hdq61, fq62, byq63, hvq64, gq65, rfl, Nq60, Kq60, p60_0, p60_1, p60_2, p60_3, p60_4, p60_5, p60_6, p60_7, p60_8⟩ := hQ60
       have N60 := Fr.app N0 Nq60
       have wx66 : own_exs Z _ [aH, aG, aR, aS, aL, aA] ocl_6 := ⟨(P0.1), P1.exa, P7.exR, P7.exS, P7.exL, P8.exa, trivial⟩
       have ni67 := own_nin (P4.1) wx66 nc_14
       have ni68 := own_nin P4.exB wx66 nc_15
       have f69 := P4.keep Kq60 ni67 ni68
       have ni70 := own_nin (P5.1) wx66 nc_14
       have ni71 := own_nin P5.exB wx66 nc_15
       have f72 := P5.keep Kq60 ni70 ni71
       have ni73 := own_nin (P6.1) wx66 nc_14
       have ni74 := own_nin P6.exB wx66 nc_15
       have f75 := P6.keep Kq60 ni73 ni74
       have ne76 := own_neE P16.exa (P0.1) ns_8
       have ne77 := own_neE P16.exa P7.exR ns_11
       have ne78 := own_neE P16.exa P7.exS ns_12
       have ne79 := own_neE P16.exa P7.exL ns_13
       have ne80 := own_neE P16.exa P8.exa ns_14
       have ni81 : aV ∉ [aH, aG, aR, aS, aL, aA] := (ninS ne76 (ninS P21 (ninS ne77 (ninS ne78 (ninS ne79 (ninS ne80 nin0))))))
       have f82 := P16.keep Kq60 ni81
       have ni83 : aN ∉ [aH, aG, aR, aS, aL, aA] := (ninS P22 (ninS P23 (ninS P24 (ninS P25 (ninS P26 (ninS P27 nin0))))))
       have f84 := P20.keep Kq60 ni83
       have z85 := Nat.le_trans Z0 Kq60.1
       refine oN ?_
       have hn86 : nn = (3 : Int32) := (show nn = (3 : Int32) from Int32.toInt_inj.mp (by omega))
       subst hn86
       exact sg112 l Z a0 hw x0 x1 x3 x5 x6 M mb bd n1 n2 n3 pq aE1 aE2 aE3 aV aN aH aS aG hdq61 byq63 fq62 fv kN T60.heap n0 z85 p60_0 p60_1 p60_2 f82 P17 P18 P19 f84 P28 p60_6 P30 P31 P32 P35 hc3 hc4 hx hby hml hZ hown (X60.more (by decide) (by decide)) rfl N60 κ₀
   · have := (mt Int32.lt_iff_toInt_lt.mpr hc1)
     have : (3 : Int32).toInt = 3 := (by decide)
     refine o_cV X0 hx hZ hown hw hml hby (rm85 l Z a0 hw [] aH aE3 M mb aS aG hd by_ (2 : Int64) f aE1 aB1 (1 : Int64) n1 aE2 aB2 (2 : Int64) n2 aB3 (3 : Int64) n3 aR aL bd hv aA g h0 n0 Z0 P0 P1 P2 P3 P4 P5 P6 P7 P8 P9 P10 P11 P12 P13 P14 P15 P28 P29 P30 P31 P32 P35 P36 P37 (show 2 ≤ M.toInt from by omega) hc3) (P0.1) e0 121 122 124 123 125 28 0 at_267 [(.ref aE3)] [] pd_31 hy_9 fun v87 T87 L87 hQ87 X87 => ?_
     obtain ⟨hdq88, fq89, byq90, hvq91, gq92, rfl, Nq87, Kq87, p87_0, p87_1, p87_2, p87_3, p87_4, p87_5, p87_6⟩ := hQ87
     have N87 := Fr.app N0 Nq87
     have wx93 : own_exs Z _ [aH, aG, aR, aS, aL, aA] ocl_6 := ⟨(P0.1), P1.exa, P7.exR, P7.exS, P7.exL, P8.exa, trivial⟩
     have ni94 := own_nin (P4.1) wx93 nc_14
     have ni95 := own_nin P4.exB wx93 nc_15
     have f96 := P4.keep Kq87 ni94 ni95
     have ni97 := own_nin (P5.1) wx93 nc_14
     have ni98 := own_nin P5.exB wx93 nc_15
     have f99 := P5.keep Kq87 ni97 ni98
     have ni100 := own_nin (P6.1) wx93 nc_14
     have ni101 := own_nin P6.exB wx93 nc_15
     have f102 := P6.keep Kq87 ni100 ni101
     have ne103 := own_neE P16.exa (P0.1) ns_8
     have ne104 := own_neE P16.exa P7.exR ns_11
     have ne105 := own_neE P16.exa P7.exS ns_12
     have ne106 := own_neE P16.exa P7.exL ns_13
     have ne107 := own_neE P16.exa P8.exa ns_14
     have ni108 : aV ∉ [aH, aG, aR, aS, aL, aA] := (ninS ne103 (ninS P21 (ninS ne104 (ninS ne105 (ninS ne106 (ninS ne107 nin0))))))
     have f109 := P16.keep Kq87 ni108
     have ni110 : aN ∉ [aH, aG, aR, aS, aL, aA] := (ninS P22 (ninS P23 (ninS P24 (ninS P25 (ninS P26 (ninS P27 nin0))))))
     have f111 := P20.keep Kq87 ni110
     have z112 := Nat.le_trans Z0 Kq87.1
     refine oN ?_
     have hn113 : nn = (3 : Int32) := (show nn = (3 : Int32) from Int32.toInt_inj.mp (by omega))
     subst hn113
     exact sg111 l Z a0 hw x0 x1 x3 x5 x6 M mb bd n1 n2 n3 pq aE1 aE2 aE3 aV aN aH aS aG hdq88 byq90 fv kN T87.heap n0 z112 p87_0 f109 P17 P18 P19 f111 P28 P30 P31 P32 P35 hc3 hx hby hml hZ hown (X87.more (by decide) (by decide)) rfl N87 κ₀
set_option maxRecDepth 65536 in
set_option maxHeartbeats 40000000 in
theorem sg119 (l Z a0) (hw : oW a0 Z) (x0 : Int32) (x1 x3 : Int64) (x5 : Int32) (x6 : Int64) (M : Int32) (mb bd : Int64) (n1 n2 : Int32) (n3 nn : Int32) (pq : Int64) (aE1 aE2 : Addr) (aE3 aV : Addr) (aN aH : Addr) (aB1 aB2 : Addr) (aB3 aS aG : Addr) (by_ : Int64) (f : Nat → Value) (aR aL : Addr) (hv : Int64) (aD : Addr) (kD : ClassId) (fv : Nat → Value) (kN : ClassId) (h0 : Heap) (n0 : Nat) (Z0 : n0 ≤ h0.size) (P0 : own_Hi Z h0 aH M mb aS aG (0 : Int32) (0 : Int32) by_ (1 : Int64)) (P1 : own_RE Z h0 aG (0 : Int32) f) (P2 : own_Ev Z h0 aE1 aB1 (1 : Int64) n1) (P3 : own_Ev Z h0 aE2 aB2 (2 : Int64) n2) (P4 : own_Ev Z h0 aE3 aB3 (3 : Int64) n3) (P5 : own_Rm Z h0 aR aS aL aD bd hv (-1 : Int32) (0 : Int32)) (P6 : Old Z n0 h0) (P7 : Sta Z Z.heap "java/util/ArrayList" "DEFAULTCAPACITY_EMPTY_ELEMENTDATA" "[Ljava/lang/Object;" (.ref aD)) (P8 : Arv Z Z.heap aD kD (.object "java/lang/Object") (0 : Int32) [] .null) (P9 : n0 ≤ aH) (P10 : n0 ≤ aG) (P11 : n0 ≤ aR) (P12 : n0 ≤ aS) (P13 : n0 ≤ aL) (P14 : own_RE Z h0 aV (4 : Int32) fv) (P15 : fv (1 : Int32).toNatClampNeg = .ref aE1) (P16 : fv (2 : Int32).toNatClampNeg = .ref aE2) (P17 : fv (3 : Int32).toNatClampNeg = .ref aE3) (P18 : Arv Z h0 aN kN .int (4 : Int32) [(.int 0), (.int n1), (.int n2), (.int n3)] (.int 0)) (P19 : aV ≠ aG) (P20 : aN ≠ aH) (P21 : aN ≠ aG) (P22 : aN ≠ aR) (P23 : aN ≠ aS) (P24 : aN ≠ aL) (P25 : 0 ≤ M.toInt ∧ M.toInt ≤ 7) (P26 : 0 ≤ n1.toInt ∧ n1.toInt ≤ 7) (P27 : 0 ≤ n2.toInt ∧ n2.toInt ≤ 7) (P28 : 0 ≤ n3.toInt ∧ n3.toInt ≤ 7) (P29 : 0 ≤ nn.toInt ∧ nn.toInt ≤ 3) (P30 : 1 ≤ nn.toInt) (P31 : 0 ≤ mb.toInt) (P32 : by_.toInt = 0) (P33 : hv.toInt = 0) (P34 : ¬ (1 ≤ M.toInt ∧ n1.toInt ≤ mb.toInt ∧ n1.toInt + 128 ≤ bd.toInt))
   (hx : p.tables.exec = Jvm.exec) (hby : c.code = code) (hml : c.maxLocals = 28) (hZ : Z.Warmed39 s.vm) (hown : s.vm.findClass "com/example/lockstep/lockstep/session/HistoryGetPinLaw" = some m.cls)
   (X0 : Stand p l e room_1 s m #[(.int x0), (.long x1), (.long x3), (.int x5), (.long x6)] below meth c s₁ locs 32 196) (e0 : s₁.heap = h0) (N0 : Fr n0 locs)
   (κ₀ : ∀ (T' : State) (L' : List Loc) (Ls : Array Slot), Stand p l e room_1 s m #[(.int x0), (.long x1), (.long x3), (.int x5), (.long x6)] below meth c T' L' 40 256 → Fr n0 L' → oG p e below F₀ (T'.setTop (mkF m 346 Ls [(.int 1)]))) :
   oG p e below F₀ (s₁.setTop (mkF m 244 (TL x0 x1 x3 x5 x6 M mb bd n1 n2 n3 nn pq aE1 aE2 aE3 aV aN aH .unset .unset .unset) [])) := by
 refine o_iw X0 hx hby at_244 ?_
 refine o_ic X0 hx hby 2 at_246 ?_
 by_cases hc1 : nn < (2 : Int32)
 · refine o_cy X0 hx hby at_247 257 ((tlt hc1).1) ?_
   refine o_iw X0 hx hby at_257 ?_
   refine o_ic X0 hx hby 3 at_259 ?_
   have := (Int32.lt_iff_toInt_lt.mp hc1)
   have : (2 : Int32).toInt = 2 := (by decide)
   have : (3 : Int32).toInt = 3 := (by decide)
   refine o_cy X0 hx hby at_260 270 ((tlt (show nn < (3 : Int32) from Int32.lt_iff_toInt_lt.mpr (by omega))).1) ?_
   have : (1 : Int32).toInt = 1 := (by decide)
   have hn2 : nn = (1 : Int32) := (show nn = (1 : Int32) from Int32.toInt_inj.mp (by omega))
   subst hn2
   exact sg106 l Z a0 hw x0 x1 x3 x5 x6 M mb bd n1 n2 n3 pq aE1 aE2 aE3 aV aN aH aS aG (0 : Int32) by_ fv kN h0 n0 Z0 P0 P14 P15 P16 P17 P18 P25 P26 P27 P28 P31 P34 hx hby hml hZ hown (X0.more (by decide) (by decide)) e0 N0 κ₀
 · refine o_cn X0 hx hby at_247 ((flt hc1).1) ?_
   refine o_aw X0 hx hby at_250 ?_
   refine o_aw X0 hx hby at_252 ?_
   by_cases hc3 : (1 ≤ M.toInt ∧ n2.toInt ≤ mb.toInt ∧ n2.toInt + 128 ≤ bd.toInt)
   · refine o_cV X0 hx hZ hown hw hml hby (rm79 l Z a0 hw [] aH aE2 M mb aS aG by_ (1 : Int64) f aB2 (2 : Int64) n2 aR aL bd hv aD kD h0 n0 Z0 P0 P1 P3 P5 P6 P7 P8 P9 P10 P11 P12 P13 P25 P27 P31 P32 P33 hc3) (P0.1) e0 121 122 124 123 125 28 0 at_254 [(.ref aE2)] [] pd_31 hy_9 fun v4 T4 L4 hQ4 X4 => ?_
     obtain ⟨aG25, aA26, fq7, byq8, hvq9, gq10, rfl, Nq4, Kq4, p4_0, p4_1, p4_2, p4_3, p4_4, p4_5, p4_6, p4_7, p4_8, p4_9⟩ := hQ4
     have N4 := Fr.app N0 Nq4
     have ne11 : aH ≠ aG25 := Nat.ne_of_lt (Nat.lt_of_lt_of_le (P0.1).lt p4_0)
     have ne12 : aG ≠ aG25 := Nat.ne_of_lt (Nat.lt_of_lt_of_le P1.lt p4_0)
     have ne13 : aE1 ≠ aG25 := Nat.ne_of_lt (Nat.lt_of_lt_of_le (P2.1).lt p4_0)
     have ne14 : aB1 ≠ aG25 := Nat.ne_of_lt (Nat.lt_of_lt_of_le (P2.2.2.2).lt p4_0)
     have ne15 : aE2 ≠ aG25 := Nat.ne_of_lt (Nat.lt_of_lt_of_le (P3.1).lt p4_0)
     have ne16 : aB2 ≠ aG25 := Nat.ne_of_lt (Nat.lt_of_lt_of_le (P3.2.2.2).lt p4_0)
     have ne17 : aE3 ≠ aG25 := Nat.ne_of_lt (Nat.lt_of_lt_of_le (P4.1).lt p4_0)
     have ne18 : aB3 ≠ aG25 := Nat.ne_of_lt (Nat.lt_of_lt_of_le (P4.2.2.2).lt p4_0)
     have ne19 : aR ≠ aG25 := Nat.ne_of_lt (Nat.lt_of_lt_of_le P5.exR.lt p4_0)
     have ne20 : aS ≠ aG25 := Nat.ne_of_lt (Nat.lt_of_lt_of_le P5.exS.lt p4_0)
     have ne21 : aL ≠ aG25 := Nat.ne_of_lt (Nat.lt_of_lt_of_le P5.exL.lt p4_0)
     have ne22 : aD ≠ aG25 := Nat.ne_of_lt (Nat.lt_of_lt_of_le (P8.ext P6.2).lt p4_0)
     have ne23 : aV ≠ aG25 := Nat.ne_of_lt (Nat.lt_of_lt_of_le P14.lt p4_0)
     have ne24 : aN ≠ aG25 := Nat.ne_of_lt (Nat.lt_of_lt_of_le P18.lt p4_0)
     have ge25 : n0 ≤ aG25 := Nat.le_trans Z0 p4_0
     have ne26 : aH ≠ aA26 := Nat.ne_of_lt (Nat.lt_of_lt_of_le (P0.1).lt p4_1)
     have ne27 : aG ≠ aA26 := Nat.ne_of_lt (Nat.lt_of_lt_of_le P1.lt p4_1)
     have ne28 : aE1 ≠ aA26 := Nat.ne_of_lt (Nat.lt_of_lt_of_le (P2.1).lt p4_1)
     have ne29 : aB1 ≠ aA26 := Nat.ne_of_lt (Nat.lt_of_lt_of_le (P2.2.2.2).lt p4_1)
     have ne30 : aE2 ≠ aA26 := Nat.ne_of_lt (Nat.lt_of_lt_of_le (P3.1).lt p4_1)
     have ne31 : aB2 ≠ aA26 := Nat.ne_of_lt (Nat.lt_of_lt_of_le (P3.2.2.2).lt p4_1)
     have ne32 : aE3 ≠ aA26 := Nat.ne_of_lt (Nat.lt_of_lt_of_le (P4.1).lt p4_1)
     have ne33 : aB3 ≠ aA26 := Nat.ne_of_lt (Nat.lt_of_lt_of_le (P4.2.2.2).lt p4_1)
     have ne34 : aR ≠ aA26 := Nat.ne_of_lt (Nat.lt_of_lt_of_le P5.exR.lt p4_1)
     have ne35 : aS ≠ aA26 := Nat.ne_of_lt (Nat.lt_of_lt_of_le P5.exS.lt p4_1)
     have ne36 : aL ≠ aA26 := Nat.ne_of_lt (Nat.lt_of_lt_of_le P5.exL.lt p4_1)
     have ne37 : aD ≠ aA26 := Nat.ne_of_lt (Nat.lt_of_lt_of_le (P8.ext P6.2).lt p4_1)
     have ne38 : aV ≠ aA26 := Nat.ne_of_lt (Nat.lt_of_lt_of_le P14.lt p4_1)
     have ne39 : aN ≠ aA26 := Nat.ne_of_lt (Nat.lt_of_lt_of_le P18.lt p4_1)
     have ge40 : n0 ≤ aA26 := Nat.le_trans Z0 p4_1
     have wx41 : own_exs Z _ [aH, aR, aS, aL] ocl_7 := ⟨(P0.1), P5.exR, P5.exS, P5.exL, trivial⟩
     have ni42 := own_nin P1.exa wx41 nc_16
     have f43 := P1.keep Kq4 ni42
     have ni44 := own_nin (P2.1) wx41 nc_17
     have ni45 := own_nin P2.exB wx41 nc_18
     have f46 := P2.keep Kq4 ni44 ni45
     have ni47 := own_nin (P3.1) wx41 nc_17
     have ni48 := own_nin P3.exB wx41 nc_18
     have f49 := P3.keep Kq4 ni47 ni48
     have ni50 := own_nin (P4.1) wx41 nc_17
     have ni51 := own_nin P4.exB wx41 nc_18
     have f52 := P4.keep Kq4 ni50 ni51
     have f53 := P6.keep Kq4 (allS P9 (allS P11 (allS P12 (allS P13 all0))))
     have ni54 := own_nin P14.exa wx41 nc_16
     have f55 := P14.keep Kq4 ni54
     have ni56 : aN ∉ [aH, aR, aS, aL] := (ninS P20 (ninS P22 (ninS P23 (ninS P24 nin0))))
     have f57 := P18.keep Kq4 ni56
     have z58 := Nat.le_trans Z0 Kq4.1
     refine oN ?_
     have := (mt Int32.lt_iff_toInt_lt.mpr hc1)
     have : (2 : Int32).toInt = 2 := (by decide)
     have : (0 : Int32).toInt = 0 := (by decide)
     exact sg117 l Z a0 hw x0 x1 x3 x5 x6 M mb bd n1 n2 n3 nn pq aE1 aE2 aE3 aV aN aH aB1 aB2 aB3 aS aG25 (0 : Int32) byq8 fq7 aR aL hvq9 aA26 gq10 fv kN T4.heap n0 z58 p4_2 p4_3 p4_4 f46 f49 f52 p4_5 p4_6 p4_7 P9 ge25 P11 P12 P13 ge40 f55 P15 P16 P17 f57 ne23 P20 ne24 P22 P23 P24 ne39 P25 (show 0 ≤ (0 : Int32).toInt ∧ (0 : Int32).toInt < M.toInt from by omega) P26 P27 P28 P29 (show 2 ≤ nn.toInt from by omega) P31 p4_8 p4_9 hc3 (show ¬ (2 ≤ M.toInt ∧ n1.toInt + n2.toInt ≤ mb.toInt ∧ n1.toInt + n2.toInt + 256 ≤ bd.toInt) from by omega) hx hby hml hZ hown (X4.more (by decide) (by decide)) rfl N4 κ₀
   · refine o_cV X0 hx hZ hown hw hml hby (rm78 l Z a0 hw [] aH aE2 M mb aS aG by_ (1 : Int64) f aB2 (2 : Int64) n2 aR aL bd hv aD kD h0 n0 Z0 P0 P1 P3 P5 P6 P7 P8 P9 P10 P11 P12 P13 P25 P27 P31 P32 P33 hc3) (P0.1) e0 121 122 124 123 125 28 0 at_254 [(.ref aE2)] [] pd_31 hy_9 fun v59 T59 L59 hQ59 X59 => ?_
     obtain ⟨rfl, Nq59, Kq59, p59_0⟩ := hQ59
     have N59 := Fr.app N0 Nq59
     have ne60 := own_neE P1.exa (P0.1) ns_8
     have f61 := P1.keep Kq59 (ninS ne60 nin0)
     have ne62 := own_neE (P2.1) (P0.1) ns_15
     have ne63 := own_neE P2.exB (P0.1) ns_16
     have f64 := P2.keep Kq59 (ninS ne62 nin0) (ninS ne63 nin0)
     have ne65 := own_neE (P3.1) (P0.1) ns_15
     have ne66 := own_neE P3.exB (P0.1) ns_16
     have f67 := P3.keep Kq59 (ninS ne65 nin0) (ninS ne66 nin0)
     have ne68 := own_neE (P4.1) (P0.1) ns_15
     have ne69 := own_neE P4.exB (P0.1) ns_16
     have f70 := P4.keep Kq59 (ninS ne68 nin0) (ninS ne69 nin0)
     have ne71 := own_neE P5.exR (P0.1) ns_6
     have ne72 := own_neE P5.exS (P0.1) ns_17
     have ne73 := own_neE P5.exL (P0.1) (Ne.symm ns_7)
     have f74 := P5.keep Kq59 (ninS ne71 nin0) (ninS ne72 nin0) (ninS ne73 nin0)
     have f75 := P6.keep Kq59 (allS P9 all0)
     have ne76 := own_neE P14.exa (P0.1) ns_8
     have f77 := P14.keep Kq59 (ninS ne76 nin0)
     have f78 := P18.keep Kq59 (ninS P20 nin0)
     have z79 := Nat.le_trans Z0 Kq59.1
     refine oN ?_
     have := (mt Int32.lt_iff_toInt_lt.mpr hc1)
     have : (2 : Int32).toInt = 2 := (by decide)
     exact sg115 l Z a0 hw x0 x1 x3 x5 x6 M mb bd n1 n2 n3 nn pq aE1 aE2 aE3 aV aN aH aB1 aB2 aB3 aS aG by_ f aR aL hv aD kD fv kN T59.heap n0 z79 p59_0 f61 f64 f67 f70 f74 f75 P7 P8 P9 P10 P11 P12 P13 f77 P15 P16 P17 f78 P19 P20 P21 P22 P23 P24 P25 P26 P27 P28 P29 (show 2 ≤ nn.toInt from by omega) P31 P32 P33 hc3 hx hby hml hZ hown (X59.more (by decide) (by decide)) rfl N59 κ₀
set_option maxRecDepth 65536 in
set_option maxHeartbeats 40000000 in
theorem sg120 (l Z a0) (hw : oW a0 Z) (x0 : Int32) (x1 x3 : Int64) (x5 : Int32) (x6 : Int64) (M : Int32) (mb bd : Int64) (n1 n2 : Int32) (n3 nn : Int32) (pq : Int64) (aE1 aE2 : Addr) (aE3 aV : Addr) (aN aH : Addr) (aB1 aB2 : Addr) (aB3 aS aG : Addr) (hd : Int32) (by_ : Int64) (f : Nat → Value) (aR aL : Addr) (hv : Int64) (aA : Addr) (g fv : Nat → Value) (kN : ClassId) (h0 : Heap) (n0 : Nat) (Z0 : n0 ≤ h0.size) (P0 : own_Hi Z h0 aH M mb aS aG hd (1 : Int32) by_ (1 : Int64)) (P1 : own_RE Z h0 aG M f) (P2 : f hd.toNatClampNeg = .ref aE1) (P3 : own_Ev Z h0 aE1 aB1 (1 : Int64) n1) (P4 : own_Ev Z h0 aE2 aB2 (2 : Int64) n2) (P5 : own_Ev Z h0 aE3 aB3 (3 : Int64) n3) (P6 : own_Rm Z h0 aR aS aL aA bd hv (0 : Int32) (1 : Int32)) (P7 : own_RO Z h0 aA (10 : Int32) g) (P8 : g (0 : Int32).toNatClampNeg = .ref aS) (P9 : n0 ≤ aH) (P10 : n0 ≤ aG) (P11 : n0 ≤ aR) (P12 : n0 ≤ aS) (P13 : n0 ≤ aL) (P14 : n0 ≤ aA) (P15 : own_RE Z h0 aV (4 : Int32) fv) (P16 : fv (1 : Int32).toNatClampNeg = .ref aE1) (P17 : fv (2 : Int32).toNatClampNeg = .ref aE2) (P18 : fv (3 : Int32).toNatClampNeg = .ref aE3) (P19 : Arv Z h0 aN kN .int (4 : Int32) [(.int 0), (.int n1), (.int n2), (.int n3)] (.int 0)) (P20 : aV ≠ aG) (P21 : aN ≠ aH) (P22 : aN ≠ aG) (P23 : aN ≠ aR) (P24 : aN ≠ aS) (P25 : aN ≠ aL) (P26 : aN ≠ aA) (P27 : 0 ≤ M.toInt ∧ M.toInt ≤ 7) (P28 : 0 ≤ hd.toInt ∧ hd.toInt < M.toInt) (P29 : 0 ≤ n1.toInt ∧ n1.toInt ≤ 7) (P30 : 0 ≤ n2.toInt ∧ n2.toInt ≤ 7) (P31 : 0 ≤ n3.toInt ∧ n3.toInt ≤ 7) (P32 : 0 ≤ nn.toInt ∧ nn.toInt ≤ 3) (P33 : 1 ≤ nn.toInt) (P34 : 0 ≤ mb.toInt) (P35 : by_.toInt = n1.toInt) (P36 : hv.toInt = n1.toInt + 128) (P37 : (1 ≤ M.toInt ∧ n1.toInt ≤ mb.toInt ∧ n1.toInt + 128 ≤ bd.toInt))
   (hx : p.tables.exec = Jvm.exec) (hby : c.code = code) (hml : c.maxLocals = 28) (hZ : Z.Warmed39 s.vm) (hown : s.vm.findClass "com/example/lockstep/lockstep/session/HistoryGetPinLaw" = some m.cls)
   (X0 : Stand p l e room_1 s m #[(.int x0), (.long x1), (.long x3), (.int x5), (.long x6)] below meth c s₁ locs 32 196) (e0 : s₁.heap = h0) (N0 : Fr n0 locs)
   (κ₀ : ∀ (T' : State) (L' : List Loc) (Ls : Array Slot), Stand p l e room_1 s m #[(.int x0), (.long x1), (.long x3), (.int x5), (.long x6)] below meth c T' L' 40 256 → Fr n0 L' → oG p e below F₀ (T'.setTop (mkF m 346 Ls [(.int 1)]))) :
   oG p e below F₀ (s₁.setTop (mkF m 244 (TL x0 x1 x3 x5 x6 M mb bd n1 n2 n3 nn pq aE1 aE2 aE3 aV aN aH .unset .unset .unset) [])) := by
 refine o_iw X0 hx hby at_244 ?_
 refine o_ic X0 hx hby 2 at_246 ?_
 by_cases hc1 : nn < (2 : Int32)
 · refine o_cy X0 hx hby at_247 257 ((tlt hc1).1) ?_
   refine o_iw X0 hx hby at_257 ?_
   refine o_ic X0 hx hby 3 at_259 ?_
   have := (Int32.lt_iff_toInt_lt.mp hc1)
   have : (2 : Int32).toInt = 2 := (by decide)
   have : (3 : Int32).toInt = 3 := (by decide)
   refine o_cy X0 hx hby at_260 270 ((tlt (show nn < (3 : Int32) from Int32.lt_iff_toInt_lt.mpr (by omega))).1) ?_
   have : (1 : Int32).toInt = 1 := (by decide)
   have hn2 : nn = (1 : Int32) := (show nn = (1 : Int32) from Int32.toInt_inj.mp (by omega))
   subst hn2
   exact sg107 l Z a0 hw x0 x1 x3 x5 x6 M mb bd n1 n2 n3 pq aE1 aE2 aE3 aV aN aH aS aG hd by_ f fv kN h0 n0 Z0 P0 P1 P2 P15 P16 P17 P18 P19 P27 P28 P29 P30 P31 P34 P37 hx hby hml hZ hown (X0.more (by decide) (by decide)) e0 N0 κ₀
 · refine o_cn X0 hx hby at_247 ((flt hc1).1) ?_
   refine o_aw X0 hx hby at_250 ?_
   refine o_aw X0 hx hby at_252 ?_
   by_cases hc3 : (1 ≤ M.toInt ∧ n2.toInt ≤ mb.toInt ∧ n2.toInt + 128 ≤ bd.toInt)
   · by_cases hc4 : (2 ≤ M.toInt ∧ n1.toInt + n2.toInt ≤ mb.toInt ∧ n1.toInt + n2.toInt + 256 ≤ bd.toInt)
     · have := (mt Int32.lt_iff_toInt_lt.mpr hc1)
       have : (2 : Int32).toInt = 2 := (by decide)
       refine o_cV X0 hx hZ hown hw hml hby (rm84 l Z a0 hw [] aH aE2 M mb aS aG hd by_ (1 : Int64) f aE1 aB1 (1 : Int64) n1 aB2 (2 : Int64) n2 aR aL bd hv aA g h0 n0 Z0 P0 P1 P2 P3 P4 P6 P7 P8 P9 P10 P11 P12 P13 P14 P27 P28 P29 P30 P34 P35 P36 (show 1 ≤ M.toInt from by omega) hc4) (P0.1) e0 121 122 124 123 125 28 0 at_254 [(.ref aE2)] [] pd_31 hy_9 fun v5 T5 L5 hQ5 X5 => ?_
       obtain ⟨hdq6, fq7, byq8, hvq9, gq10, rfl, Nq5, Kq5, p5_0, p5_1, p5_2, p5_3, p5_4, p5_5, p5_6, p5_7, p5_8, p5_9⟩ := hQ5
       have N5 := Fr.app N0 Nq5
       have wx11 : own_exs Z _ [aH, aG, aR, aS, aL, aA] ocl_6 := ⟨(P0.1), P1.exa, P6.exR, P6.exS, P6.exL, P7.exa, trivial⟩
       have ni12 := own_nin (P3.1) wx11 nc_14
       have ni13 := own_nin P3.exB wx11 nc_15
       have f14 := P3.keep Kq5 ni12 ni13
       have ni15 := own_nin (P4.1) wx11 nc_14
       have ni16 := own_nin P4.exB wx11 nc_15
       have f17 := P4.keep Kq5 ni15 ni16
       have ni18 := own_nin (P5.1) wx11 nc_14
       have ni19 := own_nin P5.exB wx11 nc_15
       have f20 := P5.keep Kq5 ni18 ni19
       have ne21 := own_neE P15.exa (P0.1) ns_8
       have ne22 := own_neE P15.exa P6.exR ns_11
       have ne23 := own_neE P15.exa P6.exS ns_12
       have ne24 := own_neE P15.exa P6.exL ns_13
       have ne25 := own_neE P15.exa P7.exa ns_14
       have ni26 : aV ∉ [aH, aG, aR, aS, aL, aA] := (ninS ne21 (ninS P20 (ninS ne22 (ninS ne23 (ninS ne24 (ninS ne25 nin0))))))
       have f27 := P15.keep Kq5 ni26
       have ni28 : aN ∉ [aH, aG, aR, aS, aL, aA] := (ninS P21 (ninS P22 (ninS P23 (ninS P24 (ninS P25 (ninS P26 nin0))))))
       have f29 := P19.keep Kq5 ni28
       have z30 := Nat.le_trans Z0 Kq5.1
       refine oN ?_
       exact sg118 l Z a0 hw x0 x1 x3 x5 x6 M mb bd n1 n2 n3 nn pq aE1 aE2 aE3 aV aN aH aB1 aB2 aB3 aS aG hdq6 byq8 fq7 aR aL hvq9 aA gq10 fv kN T5.heap n0 z30 p5_0 p5_1 p5_2 p5_3 f14 f17 f20 p5_4 p5_5 p5_6 P9 P10 P11 P12 P13 P14 f27 P16 P17 P18 f29 P20 P21 P22 P23 P24 P25 P26 P27 p5_7 P29 P30 P31 P32 (show 2 ≤ nn.toInt from by omega) P34 p5_8 p5_9 hc4 hx hby hml hZ hown (X5.more (by decide) (by decide)) rfl N5 κ₀
     · have := (mt Int32.lt_iff_toInt_lt.mpr hc1)
       have : (2 : Int32).toInt = 2 := (by decide)
       refine o_cV X0 hx hZ hown hw hml hby (rm83 l Z a0 hw [] aH aE2 M mb aS aG hd by_ (1 : Int64) f aE1 aB1 (1 : Int64) n1 aB2 (2 : Int64) n2 aR aL bd hv aA g h0 n0 Z0 P0 P1 P2 P3 P4 P6 P7 P8 P9 P10 P11 P12 P13 P14 P27 P28 P29 P30 P34 P35 P36 (show 1 ≤ M.toInt from by omega) hc3 hc4) (P0.1) e0 121 122 124 123 125 28 0 at_254 [(.ref aE2)] [] pd_31 hy_9 fun v31 T31 L31 hQ31 X31 => ?_
       obtain ⟨hdq32, fq33, byq34, hvq35, gq36, rfl, Nq31, Kq31, p31_0, p31_1, p31_2, p31_3, p31_4, p31_5, p31_6, p31_7, p31_8⟩ := hQ31
       have N31 := Fr.app N0 Nq31
       have wx37 : own_exs Z _ [aH, aG, aR, aS, aL, aA] ocl_6 := ⟨(P0.1), P1.exa, P6.exR, P6.exS, P6.exL, P7.exa, trivial⟩
       have ni38 := own_nin (P3.1) wx37 nc_14
       have ni39 := own_nin P3.exB wx37 nc_15
       have f40 := P3.keep Kq31 ni38 ni39
       have ni41 := own_nin (P4.1) wx37 nc_14
       have ni42 := own_nin P4.exB wx37 nc_15
       have f43 := P4.keep Kq31 ni41 ni42
       have ni44 := own_nin (P5.1) wx37 nc_14
       have ni45 := own_nin P5.exB wx37 nc_15
       have f46 := P5.keep Kq31 ni44 ni45
       have ne47 := own_neE P15.exa (P0.1) ns_8
       have ne48 := own_neE P15.exa P6.exR ns_11
       have ne49 := own_neE P15.exa P6.exS ns_12
       have ne50 := own_neE P15.exa P6.exL ns_13
       have ne51 := own_neE P15.exa P7.exa ns_14
       have ni52 : aV ∉ [aH, aG, aR, aS, aL, aA] := (ninS ne47 (ninS P20 (ninS ne48 (ninS ne49 (ninS ne50 (ninS ne51 nin0))))))
       have f53 := P15.keep Kq31 ni52
       have ni54 : aN ∉ [aH, aG, aR, aS, aL, aA] := (ninS P21 (ninS P22 (ninS P23 (ninS P24 (ninS P25 (ninS P26 nin0))))))
       have f55 := P19.keep Kq31 ni54
       have z56 := Nat.le_trans Z0 Kq31.1
       refine oN ?_
       exact sg117 l Z a0 hw x0 x1 x3 x5 x6 M mb bd n1 n2 n3 nn pq aE1 aE2 aE3 aV aN aH aB1 aB2 aB3 aS aG hdq32 byq34 fq33 aR aL hvq35 aA gq36 fv kN T31.heap n0 z56 p31_0 p31_1 p31_2 f40 f43 f46 p31_3 p31_4 p31_5 P9 P10 P11 P12 P13 P14 f53 P16 P17 P18 f55 P20 P21 P22 P23 P24 P25 P26 P27 p31_6 P29 P30 P31 P32 (show 2 ≤ nn.toInt from by omega) P34 p31_7 p31_8 hc3 hc4 hx hby hml hZ hown (X31.more (by decide) (by decide)) rfl N31 κ₀
   · have := (mt Int32.lt_iff_toInt_lt.mpr hc1)
     have : (2 : Int32).toInt = 2 := (by decide)
     refine o_cV X0 hx hZ hown hw hml hby (rm82 l Z a0 hw [] aH aE2 M mb aS aG hd by_ (1 : Int64) f aE1 aB1 (1 : Int64) n1 aB2 (2 : Int64) n2 aR aL bd hv aA g h0 n0 Z0 P0 P1 P2 P3 P4 P6 P7 P8 P9 P10 P11 P12 P13 P14 P27 P28 P29 P30 P34 P35 P36 (show 1 ≤ M.toInt from by omega) hc3) (P0.1) e0 121 122 124 123 125 28 0 at_254 [(.ref aE2)] [] pd_31 hy_9 fun v57 T57 L57 hQ57 X57 => ?_
     obtain ⟨hdq58, fq59, byq60, hvq61, gq62, rfl, Nq57, Kq57, p57_0, p57_1, p57_2, p57_3, p57_4, p57_5, p57_6⟩ := hQ57
     have N57 := Fr.app N0 Nq57
     have wx63 : own_exs Z _ [aH, aG, aR, aS, aL, aA] ocl_6 := ⟨(P0.1), P1.exa, P6.exR, P6.exS, P6.exL, P7.exa, trivial⟩
     have ni64 := own_nin (P3.1) wx63 nc_14
     have ni65 := own_nin P3.exB wx63 nc_15
     have f66 := P3.keep Kq57 ni64 ni65
     have ni67 := own_nin (P4.1) wx63 nc_14
     have ni68 := own_nin P4.exB wx63 nc_15
     have f69 := P4.keep Kq57 ni67 ni68
     have ni70 := own_nin (P5.1) wx63 nc_14
     have ni71 := own_nin P5.exB wx63 nc_15
     have f72 := P5.keep Kq57 ni70 ni71
     have ne73 := own_neE P15.exa (P0.1) ns_8
     have ne74 := own_neE P15.exa P6.exR ns_11
     have ne75 := own_neE P15.exa P6.exS ns_12
     have ne76 := own_neE P15.exa P6.exL ns_13
     have ne77 := own_neE P15.exa P7.exa ns_14
     have ni78 : aV ∉ [aH, aG, aR, aS, aL, aA] := (ninS ne73 (ninS P20 (ninS ne74 (ninS ne75 (ninS ne76 (ninS ne77 nin0))))))
     have f79 := P15.keep Kq57 ni78
     have ni80 : aN ∉ [aH, aG, aR, aS, aL, aA] := (ninS P21 (ninS P22 (ninS P23 (ninS P24 (ninS P25 (ninS P26 nin0))))))
     have f81 := P19.keep Kq57 ni80
     have z82 := Nat.le_trans Z0 Kq57.1
     refine oN ?_
     exact sg116 l Z a0 hw x0 x1 x3 x5 x6 M mb bd n1 n2 n3 nn pq aE1 aE2 aE3 aV aN aH aB1 aB2 aB3 aS aG hdq58 byq60 fq59 aR aL hvq61 aA gq62 fv kN T57.heap n0 z82 p57_0 p57_1 f66 f69 f72 p57_2 p57_3 P9 P10 P11 P12 P13 P14 f79 P16 P17 P18 f81 P20 P21 P22 P23 P24 P25 P26 P27 p57_4 P29 P30 P31 P32 (show 2 ≤ nn.toInt from by omega) P34 p57_5 p57_6 hc3 hx hby hml hZ hown (X57.more (by decide) (by decide)) rfl N57 κ₀
set_option maxRecDepth 65536 in
set_option maxHeartbeats 40000000 in
theorem sg121 (l Z a0) (hw : oW a0 Z) (x0 : Int32) (x1 x3 : Int64) (x5 : Int32) (x6 : Int64) (M : Int32) (mb bd : Int64) (n1 n2 : Int32) (n3 nn : Int32) (pq : Int64) (aE1 aE2 : Addr) (aE3 aV : Addr) (aN aH : Addr) (aB1 aB2 : Addr) (aB3 aS aG : Addr) (by_ : Int64) (f : Nat → Value) (aR aL : Addr) (hv : Int64) (aD : Addr) (kD : ClassId) (fv : Nat → Value) (kN : ClassId) (h0 : Heap) (n0 : Nat) (Z0 : n0 ≤ h0.size) (P0 : own_Hi Z h0 aH M mb aS aG (0 : Int32) (0 : Int32) by_ (0 : Int64)) (P1 : own_RE Z h0 aG (0 : Int32) f) (P2 : own_Ev Z h0 aE1 aB1 (1 : Int64) n1) (P3 : own_Ev Z h0 aE2 aB2 (2 : Int64) n2) (P4 : own_Ev Z h0 aE3 aB3 (3 : Int64) n3) (P5 : own_Rm Z h0 aR aS aL aD bd hv (-1 : Int32) (0 : Int32)) (P6 : Old Z n0 h0) (P7 : Sta Z Z.heap "java/util/ArrayList" "DEFAULTCAPACITY_EMPTY_ELEMENTDATA" "[Ljava/lang/Object;" (.ref aD)) (P8 : Arv Z Z.heap aD kD (.object "java/lang/Object") (0 : Int32) [] .null) (P9 : n0 ≤ aH) (P10 : n0 ≤ aG) (P11 : n0 ≤ aR) (P12 : n0 ≤ aS) (P13 : n0 ≤ aL) (P14 : own_RE Z h0 aV (4 : Int32) fv) (P15 : fv (1 : Int32).toNatClampNeg = .ref aE1) (P16 : fv (2 : Int32).toNatClampNeg = .ref aE2) (P17 : fv (3 : Int32).toNatClampNeg = .ref aE3) (P18 : Arv Z h0 aN kN .int (4 : Int32) [(.int 0), (.int n1), (.int n2), (.int n3)] (.int 0)) (P19 : aV ≠ aG) (P20 : aN ≠ aH) (P21 : aN ≠ aG) (P22 : aN ≠ aR) (P23 : aN ≠ aS) (P24 : aN ≠ aL) (P25 : 0 ≤ M.toInt ∧ M.toInt ≤ 7) (P26 : 0 ≤ n1.toInt ∧ n1.toInt ≤ 7) (P27 : 0 ≤ n2.toInt ∧ n2.toInt ≤ 7) (P28 : 0 ≤ n3.toInt ∧ n3.toInt ≤ 7) (P29 : 0 ≤ nn.toInt ∧ nn.toInt ≤ 3) (P30 : 0 ≤ mb.toInt) (P31 : by_.toInt = 0) (P32 : hv.toInt = 0)
   (hx : p.tables.exec = Jvm.exec) (hby : c.code = code) (hml : c.maxLocals = 28) (hZ : Z.Warmed39 s.vm) (hown : s.vm.findClass "com/example/lockstep/lockstep/session/HistoryGetPinLaw" = some m.cls)
   (X0 : Stand p l e room_1 s m #[(.int x0), (.long x1), (.long x3), (.int x5), (.long x6)] below meth c s₁ locs 30 179) (e0 : s₁.heap = h0) (N0 : Fr n0 locs)
   (κ₀ : ∀ (T' : State) (L' : List Loc) (Ls : Array Slot), Stand p l e room_1 s m #[(.int x0), (.long x1), (.long x3), (.int x5), (.long x6)] below meth c T' L' 40 256 → Fr n0 L' → oG p e below F₀ (T'.setTop (mkF m 346 Ls [(.int 1)]))) :
   oG p e below F₀ (s₁.setTop (mkF m 231 (TL x0 x1 x3 x5 x6 M mb bd n1 n2 n3 nn pq aE1 aE2 aE3 aV aN aH .unset .unset .unset) [])) := by
 refine o_iw X0 hx hby at_231 ?_
 refine o_ic X0 hx hby 1 at_233 ?_
 by_cases hc1 : nn < (1 : Int32)
 · refine o_cy X0 hx hby at_234 244 ((tlt hc1).1) ?_
   refine o_iw X0 hx hby at_244 ?_
   refine o_ic X0 hx hby 2 at_246 ?_
   have := (Int32.lt_iff_toInt_lt.mp hc1)
   have : (1 : Int32).toInt = 1 := (by decide)
   have : (2 : Int32).toInt = 2 := (by decide)
   refine o_cy X0 hx hby at_247 257 ((tlt (show nn < (2 : Int32) from Int32.lt_iff_toInt_lt.mpr (by omega))).1) ?_
   refine o_iw X0 hx hby at_257 ?_
   refine o_ic X0 hx hby 3 at_259 ?_
   have : (3 : Int32).toInt = 3 := (by decide)
   refine o_cy X0 hx hby at_260 270 ((tlt (show nn < (3 : Int32) from Int32.lt_iff_toInt_lt.mpr (by omega))).1) ?_
   have : (0 : Int32).toInt = 0 := (by decide)
   have hn2 : nn = (0 : Int32) := (show nn = (0 : Int32) from Int32.toInt_inj.mp (by omega))
   subst hn2
   exact sg105 l Z a0 hw x0 x1 x3 x5 x6 M mb bd n1 n2 n3 pq aE1 aE2 aE3 aV aN aH aS aG (0 : Int32) by_ fv kN h0 n0 Z0 P0 P14 P15 P16 P17 P18 P25 P26 P27 P28 P30 hx hby hml hZ hown (X0.more (by decide) (by decide)) e0 N0 κ₀
 · refine o_cn X0 hx hby at_234 ((flt hc1).1) ?_
   refine o_aw X0 hx hby at_237 ?_
   refine o_aw X0 hx hby at_239 ?_
   by_cases hc3 : (1 ≤ M.toInt ∧ n1.toInt ≤ mb.toInt ∧ n1.toInt + 128 ≤ bd.toInt)
   · refine o_cV X0 hx hZ hown hw hml hby (rm79 l Z a0 hw [] aH aE1 M mb aS aG by_ (0 : Int64) f aB1 (1 : Int64) n1 aR aL bd hv aD kD h0 n0 Z0 P0 P1 P2 P5 P6 P7 P8 P9 P10 P11 P12 P13 P25 P26 P30 P31 P32 hc3) (P0.1) e0 121 122 124 123 125 28 0 at_241 [(.ref aE1)] [] pd_31 hy_9 fun v4 T4 L4 hQ4 X4 => ?_
     obtain ⟨aG25, aA26, fq7, byq8, hvq9, gq10, rfl, Nq4, Kq4, p4_0, p4_1, p4_2, p4_3, p4_4, p4_5, p4_6, p4_7, p4_8, p4_9⟩ := hQ4
     have N4 := Fr.app N0 Nq4
     have ne11 : aH ≠ aG25 := Nat.ne_of_lt (Nat.lt_of_lt_of_le (P0.1).lt p4_0)
     have ne12 : aG ≠ aG25 := Nat.ne_of_lt (Nat.lt_of_lt_of_le P1.lt p4_0)
     have ne13 : aE1 ≠ aG25 := Nat.ne_of_lt (Nat.lt_of_lt_of_le (P2.1).lt p4_0)
     have ne14 : aB1 ≠ aG25 := Nat.ne_of_lt (Nat.lt_of_lt_of_le (P2.2.2.2).lt p4_0)
     have ne15 : aE2 ≠ aG25 := Nat.ne_of_lt (Nat.lt_of_lt_of_le (P3.1).lt p4_0)
     have ne16 : aB2 ≠ aG25 := Nat.ne_of_lt (Nat.lt_of_lt_of_le (P3.2.2.2).lt p4_0)
     have ne17 : aE3 ≠ aG25 := Nat.ne_of_lt (Nat.lt_of_lt_of_le (P4.1).lt p4_0)
     have ne18 : aB3 ≠ aG25 := Nat.ne_of_lt (Nat.lt_of_lt_of_le (P4.2.2.2).lt p4_0)
     have ne19 : aR ≠ aG25 := Nat.ne_of_lt (Nat.lt_of_lt_of_le P5.exR.lt p4_0)
     have ne20 : aS ≠ aG25 := Nat.ne_of_lt (Nat.lt_of_lt_of_le P5.exS.lt p4_0)
     have ne21 : aL ≠ aG25 := Nat.ne_of_lt (Nat.lt_of_lt_of_le P5.exL.lt p4_0)
     have ne22 : aD ≠ aG25 := Nat.ne_of_lt (Nat.lt_of_lt_of_le (P8.ext P6.2).lt p4_0)
     have ne23 : aV ≠ aG25 := Nat.ne_of_lt (Nat.lt_of_lt_of_le P14.lt p4_0)
     have ne24 : aN ≠ aG25 := Nat.ne_of_lt (Nat.lt_of_lt_of_le P18.lt p4_0)
     have ge25 : n0 ≤ aG25 := Nat.le_trans Z0 p4_0
     have ne26 : aH ≠ aA26 := Nat.ne_of_lt (Nat.lt_of_lt_of_le (P0.1).lt p4_1)
     have ne27 : aG ≠ aA26 := Nat.ne_of_lt (Nat.lt_of_lt_of_le P1.lt p4_1)
     have ne28 : aE1 ≠ aA26 := Nat.ne_of_lt (Nat.lt_of_lt_of_le (P2.1).lt p4_1)
     have ne29 : aB1 ≠ aA26 := Nat.ne_of_lt (Nat.lt_of_lt_of_le (P2.2.2.2).lt p4_1)
     have ne30 : aE2 ≠ aA26 := Nat.ne_of_lt (Nat.lt_of_lt_of_le (P3.1).lt p4_1)
     have ne31 : aB2 ≠ aA26 := Nat.ne_of_lt (Nat.lt_of_lt_of_le (P3.2.2.2).lt p4_1)
     have ne32 : aE3 ≠ aA26 := Nat.ne_of_lt (Nat.lt_of_lt_of_le (P4.1).lt p4_1)
     have ne33 : aB3 ≠ aA26 := Nat.ne_of_lt (Nat.lt_of_lt_of_le (P4.2.2.2).lt p4_1)
     have ne34 : aR ≠ aA26 := Nat.ne_of_lt (Nat.lt_of_lt_of_le P5.exR.lt p4_1)
     have ne35 : aS ≠ aA26 := Nat.ne_of_lt (Nat.lt_of_lt_of_le P5.exS.lt p4_1)
     have ne36 : aL ≠ aA26 := Nat.ne_of_lt (Nat.lt_of_lt_of_le P5.exL.lt p4_1)
     have ne37 : aD ≠ aA26 := Nat.ne_of_lt (Nat.lt_of_lt_of_le (P8.ext P6.2).lt p4_1)
     have ne38 : aV ≠ aA26 := Nat.ne_of_lt (Nat.lt_of_lt_of_le P14.lt p4_1)
     have ne39 : aN ≠ aA26 := Nat.ne_of_lt (Nat.lt_of_lt_of_le P18.lt p4_1)
     have ge40 : n0 ≤ aA26 := Nat.le_trans Z0 p4_1
     have wx41 : own_exs Z _ [aH, aR, aS, aL] ocl_7 := ⟨(P0.1), P5.exR, P5.exS, P5.exL, trivial⟩
     have ni42 := own_nin P1.exa wx41 nc_16
     have f43 := P1.keep Kq4 ni42
     have ni44 := own_nin (P2.1) wx41 nc_17
     have ni45 := own_nin P2.exB wx41 nc_18
     have f46 := P2.keep Kq4 ni44 ni45
     have ni47 := own_nin (P3.1) wx41 nc_17
     have ni48 := own_nin P3.exB wx41 nc_18
     have f49 := P3.keep Kq4 ni47 ni48
     have ni50 := own_nin (P4.1) wx41 nc_17
     have ni51 := own_nin P4.exB wx41 nc_18
     have f52 := P4.keep Kq4 ni50 ni51
     have f53 := P6.keep Kq4 (allS P9 (allS P11 (allS P12 (allS P13 all0))))
     have ni54 := own_nin P14.exa wx41 nc_16
     have f55 := P14.keep Kq4 ni54
     have ni56 : aN ∉ [aH, aR, aS, aL] := (ninS P20 (ninS P22 (ninS P23 (ninS P24 nin0))))
     have f57 := P18.keep Kq4 ni56
     have z58 := Nat.le_trans Z0 Kq4.1
     refine oN ?_
     have := (mt Int32.lt_iff_toInt_lt.mpr hc1)
     have : (1 : Int32).toInt = 1 := (by decide)
     have : (0 : Int32).toInt = 0 := (by decide)
     exact sg120 l Z a0 hw x0 x1 x3 x5 x6 M mb bd n1 n2 n3 nn pq aE1 aE2 aE3 aV aN aH aB1 aB2 aB3 aS aG25 (0 : Int32) byq8 fq7 aR aL hvq9 aA26 gq10 fv kN T4.heap n0 z58 p4_2 p4_3 p4_4 f46 f49 f52 p4_5 p4_6 p4_7 P9 ge25 P11 P12 P13 ge40 f55 P15 P16 P17 f57 ne23 P20 ne24 P22 P23 P24 ne39 P25 (show 0 ≤ (0 : Int32).toInt ∧ (0 : Int32).toInt < M.toInt from by omega) P26 P27 P28 P29 (show 1 ≤ nn.toInt from by omega) P30 p4_8 p4_9 hc3 hx hby hml hZ hown (X4.more (by decide) (by decide)) rfl N4 κ₀
   · refine o_cV X0 hx hZ hown hw hml hby (rm78 l Z a0 hw [] aH aE1 M mb aS aG by_ (0 : Int64) f aB1 (1 : Int64) n1 aR aL bd hv aD kD h0 n0 Z0 P0 P1 P2 P5 P6 P7 P8 P9 P10 P11 P12 P13 P25 P26 P30 P31 P32 hc3) (P0.1) e0 121 122 124 123 125 28 0 at_241 [(.ref aE1)] [] pd_31 hy_9 fun v59 T59 L59 hQ59 X59 => ?_
     obtain ⟨rfl, Nq59, Kq59, p59_0⟩ := hQ59
     have N59 := Fr.app N0 Nq59
     have ne60 := own_neE P1.exa (P0.1) ns_8
     have f61 := P1.keep Kq59 (ninS ne60 nin0)
     have ne62 := own_neE (P2.1) (P0.1) ns_15
     have ne63 := own_neE P2.exB (P0.1) ns_16
     have f64 := P2.keep Kq59 (ninS ne62 nin0) (ninS ne63 nin0)
     have ne65 := own_neE (P3.1) (P0.1) ns_15
     have ne66 := own_neE P3.exB (P0.1) ns_16
     have f67 := P3.keep Kq59 (ninS ne65 nin0) (ninS ne66 nin0)
     have ne68 := own_neE (P4.1) (P0.1) ns_15
     have ne69 := own_neE P4.exB (P0.1) ns_16
     have f70 := P4.keep Kq59 (ninS ne68 nin0) (ninS ne69 nin0)
     have ne71 := own_neE P5.exR (P0.1) ns_6
     have ne72 := own_neE P5.exS (P0.1) ns_17
     have ne73 := own_neE P5.exL (P0.1) (Ne.symm ns_7)
     have f74 := P5.keep Kq59 (ninS ne71 nin0) (ninS ne72 nin0) (ninS ne73 nin0)
     have f75 := P6.keep Kq59 (allS P9 all0)
     have ne76 := own_neE P14.exa (P0.1) ns_8
     have f77 := P14.keep Kq59 (ninS ne76 nin0)
     have f78 := P18.keep Kq59 (ninS P20 nin0)
     have z79 := Nat.le_trans Z0 Kq59.1
     refine oN ?_
     have := (mt Int32.lt_iff_toInt_lt.mpr hc1)
     have : (1 : Int32).toInt = 1 := (by decide)
     exact sg119 l Z a0 hw x0 x1 x3 x5 x6 M mb bd n1 n2 n3 nn pq aE1 aE2 aE3 aV aN aH aB1 aB2 aB3 aS aG by_ f aR aL hv aD kD fv kN T59.heap n0 z79 p59_0 f61 f64 f67 f70 f74 f75 P7 P8 P9 P10 P11 P12 P13 f77 P15 P16 P17 f78 P19 P20 P21 P22 P23 P24 P25 P26 P27 P28 P29 (show 1 ≤ nn.toInt from by omega) P30 P31 P32 hc3 hx hby hml hZ hown (X59.more (by decide) (by decide)) rfl N59 κ₀
theorem ef_0 (m : MethodId) (x0 : Int32) (x1 : Int64) (x3 : Int64) (x5 : Int32) (x6 : Int64) : entryFrame m #[(.int x0), (.long x1), (.long x3), (.int x5), (.long x6)] maxLocals = mkF m 0 #[.val (.int x0), .val (.long x1), .second, .val (.long x3), .second, .val (.int x5), .val (.long x6), .second, .unset, .unset, .unset, .unset, .unset, .unset, .unset, .unset, .unset, .unset, .unset, .unset, .unset, .unset, .unset, .unset, .unset, .unset, .unset, .unset] [] := by first | (simp [entryFrame, mkF, argsToLocals, Value.category, maxLocals]; done) | rfl
def Q0 (Z : State) (x0 : Int32) (x1 x3 : Int64) (x5 : Int32) (x6 : Int64) (aD : Addr) (kD : ClassId) (aO : Addr) (h0 : Heap) (n0 : Nat) (v : Option Value) (h : Heap) (L : List Loc) : Prop := v = some (.int 1) ∧ Fr n0 L
set_option maxRecDepth 65536 in
set_option maxHeartbeats 40000000 in
theorem rm0 (l Z a0) (hw : oW a0 Z) (ws) (x0 : Int32) (x1 x3 : Int64) (x5 : Int32) (x6 : Int64) (aD : Addr) (kD : ClassId) (aO : Addr) (h0 : Heap) (n0 : Nat) (Z0 : n0 ≤ h0.size) (P0 : Old Z n0 h0) (P1 : Sta Z Z.heap "java/util/ArrayList" "DEFAULTCAPACITY_EMPTY_ELEMENTDATA" "[Ljava/lang/Object;" (.ref aD)) (P2 : Arv Z Z.heap aD kD (.object "java/lang/Object") (0 : Int32) [] .null) (P3 : Sta Z Z.heap "com/example/lockstep/lockstep/session/FrameRoom$Order" "LARGEST" "Lcom/example/lockstep/lockstep/session/FrameRoom$Order;" (.ref aO)) :
   MetFree l x (head1 (Jvm.Cond.code x code maxLocals ret :: ws) room_1) (fun ar_ U => ar_ = #[(.int x0), (.long x1), (.long x3), (.int x5), (.long x6)] ∧ Z.Warmed39 U.vm ∧ U.heap = h0 ∧ Z.WarmedH U.vm) (fun _ _ _ _ _ => True) (fun _ U oo_ U' => ∃ v L, oo_ = .returned v ∧ Q0 Z x0 x1 x3 x5 x6 aD kD aO h0 n0 v U'.heap L ∧ FrameEnd U oo_ U' L room_1.cells room_1.slots) := by
 refine MetFree.of_bodySF (plainFor_of_name pn_9) hisR ?_
 intro p e s m args below meth c s₁ Bd hml0 hP hK
 obtain ⟨rfl, hZ, hh, hH⟩ := hP
 have hx := Bd.exec
 have hby := Bd.bytes
 have hml : c.maxLocals = 28 := hml0
 have hown : s.vm.findClass "com/example/lockstep/lockstep/session/HistoryGetPinLaw" = some m.cls := findClass_of_methodNamed Bd.named
 have hnm := (name_of_methodNamed Bd.named Bd.method).1
 have X0 : Stand p l e room_1 s m #[(.int x0), (.long x1), (.long x3), (.int x5), (.long x6)] below meth c s₁ [] 0 0 := Stand.of_body Bd
 have e0 : s₁.heap = h0 := by rw [← hh, Bd.state]; rfl
 have N0 := Fr.nil n0
 refine own_in (castTop (ef_0 m x0 x1 x3 x5 x6)) ?_
 show oG _ _ _ _ (s₁.setTop (mkF m 0 #[vI x0, vJ x1, .second, vJ x3, .second, vI x5, vJ x6, .second, .unset, .unset, .unset, .unset, .unset, .unset, .unset, .unset, .unset, .unset, .unset, .unset, .unset, .unset, .unset, .unset, .unset, .unset, .unset, .unset] []))
 refine own_kx (P := fun F => ∀ (T' : State) (L' : List Loc) (Ls : Array Slot), Stand p l e room_1 s m #[(.int x0), (.long x1), (.long x3), (.int x5), (.long x6)] below meth c T' L' 40 256 → Fr n0 L' → oG p e below F (T'.setTop (mkF m 346 Ls [(.int 1)]))) ?_ ?_
 · intro T' L' Ls X' N'
   obtain ⟨fs, hr, hrun, hended, hW, hsame⟩ := X'.leave (v := some (.int 1)) (fun h => by rw [Bd.returns] at h; cases h)
   refine ⟨_, _, retN X' hx (t := .boolean) Bd.returns (by simp) (hb hby at_346) hr, hrun, hended, _, _, rfl, ?_, ⟨_, rfl⟩, hW, hsame.mono (by decide) (by decide)⟩
   exact ⟨rfl, N'⟩
 intro κe
 show oG _ _ _ _ (s₁.setTop (mkF m 0 #[vI x0, vJ x1, .second, vJ x3, .second, vI x5, vJ x6, .second, .unset, .unset, .unset, .unset, .unset, .unset, .unset, .unset, .unset, .unset, .unset, .unset, .unset, .unset, .unset, .unset, .unset, .unset, .unset, .unset] []))
 refine o_il X0 hx hby at_0 ?_
 refine o_bp X0 hx hby 7 at_1 ?_
 refine o_iand X0 hx hby at_3 ?_
 obtain ⟨M, hg1, hg1r⟩ : ∃ z : Int32, z = (x0 &&& (7 : Int32)) ∧ 0 ≤ z.toInt ∧ z.toInt ≤ 7 := ⟨_, rfl, own_and7 x0⟩
 rw [← hg1]
 clear hg1
 refine o_isw X0 hx hby at_4 #[vI x0, vJ x1, .second, vJ x3, .second, vI x5, vJ x6, .second, vI M, .unset, .unset, .unset, .unset, .unset, .unset, .unset, .unset, .unset, .unset, .unset, .unset, .unset, .unset, .unset, .unset, .unset, .unset, .unset] ?_
 show oG _ _ _ _ (s₁.setTop (mkF m 6 #[vI x0, vJ x1, .second, vJ x3, .second, vI x5, vJ x6, .second, vI M, .unset, .unset, .unset, .unset, .unset, .unset, .unset, .unset, .unset, .unset, .unset, .unset, .unset, .unset, .unset, .unset, .unset, .unset, .unset] []))
 refine own_join (α := Int64) X0 e0 (fun T' mb => T'.setTop (mkF m 29 #[vI x0, vJ x1, .second, vJ x3, .second, vI x5, vJ x6, .second, vI M, .unset, .unset, .unset, .unset, .unset, .unset, .unset, .unset, .unset, .unset, .unset, .unset, .unset, .unset, .unset, .unset, .unset, .unset, .unset] [(.long mb)])) (fun mb => 0 ≤ mb.toInt) ?_ ?_
 · intro T2 mb X2 e2 pr2
   show oG _ _ _ _ (T2.setTop (mkF m 29 #[vI x0, vJ x1, .second, vJ x3, .second, vI x5, vJ x6, .second, vI M, .unset, .unset, .unset, .unset, .unset, .unset, .unset, .unset, .unset, .unset, .unset, .unset, .unset, .unset, .unset, .unset, .unset, .unset, .unset] [(.long mb)]))
   refine o_lsw X2 hx hby at_29 #[vI x0, vJ x1, .second, vJ x3, .second, vI x5, vJ x6, .second, vI M, vJ mb, .second, .unset, .unset, .unset, .unset, .unset, .unset, .unset, .unset, .unset, .unset, .unset, .unset, .unset, .unset, .unset, .unset, .unset] ?_
   show oG _ _ _ _ (T2.setTop (mkF m 31 #[vI x0, vJ x1, .second, vJ x3, .second, vI x5, vJ x6, .second, vI M, vJ mb, .second, .unset, .unset, .unset, .unset, .unset, .unset, .unset, .unset, .unset, .unset, .unset, .unset, .unset, .unset, .unset, .unset, .unset] []))
   refine own_join (α := Int64) X2 e2 (fun T' bd => T'.setTop (mkF m 50 #[vI x0, vJ x1, .second, vJ x3, .second, vI x5, vJ x6, .second, vI M, vJ mb, .second, .unset, .unset, .unset, .unset, .unset, .unset, .unset, .unset, .unset, .unset, .unset, .unset, .unset, .unset, .unset, .unset, .unset] [(.long bd)])) (fun bd => True) ?_ ?_
   · intro T3 bd X3 e3 pr3
     show oG _ _ _ _ (T3.setTop (mkF m 50 #[vI x0, vJ x1, .second, vJ x3, .second, vI x5, vJ x6, .second, vI M, vJ mb, .second, .unset, .unset, .unset, .unset, .unset, .unset, .unset, .unset, .unset, .unset, .unset, .unset, .unset, .unset, .unset, .unset, .unset] [(.long bd)]))
     refine o_lsw X3 hx hby at_50 #[vI x0, vJ x1, .second, vJ x3, .second, vI x5, vJ x6, .second, vI M, vJ mb, .second, vJ bd, .second, .unset, .unset, .unset, .unset, .unset, .unset, .unset, .unset, .unset, .unset, .unset, .unset, .unset, .unset, .unset] ?_
     refine o_iw X3 hx hby at_52 ?_
     refine o_bp X3 hx hby 7 at_54 ?_
     refine o_iand X3 hx hby at_56 ?_
     obtain ⟨n1, hg4, hg4r⟩ : ∃ z : Int32, z = (x5 &&& (7 : Int32)) ∧ 0 ≤ z.toInt ∧ z.toInt ≤ 7 := ⟨_, rfl, own_and7 x5⟩
     rw [← hg4]
     clear hg4
     refine o_isw X3 hx hby at_57 #[vI x0, vJ x1, .second, vJ x3, .second, vI x5, vJ x6, .second, vI M, vJ mb, .second, vJ bd, .second, vI n1, .unset, .unset, .unset, .unset, .unset, .unset, .unset, .unset, .unset, .unset, .unset, .unset, .unset, .unset] ?_
     refine o_iw X3 hx hby at_59 ?_
     refine o_ic X3 hx hby 3 at_61 ?_
     refine oS (fun _ κ => XS.iushr X3.here hx rfl (hb hby at_62) rfl κ) ?_
     show oG _ _ _ _ (T3.setTop (mkF m 63 #[vI x0, vJ x1, .second, vJ x3, .second, vI x5, vJ x6, .second, vI M, vJ mb, .second, vJ bd, .second, vI n1, .unset, .unset, .unset, .unset, .unset, .unset, .unset, .unset, .unset, .unset, .unset, .unset, .unset, .unset] [(.int ((x5.toUInt32 >>> ((3 : Int32) &&& 31).toUInt32).toInt32))]))
     refine o_bp X3 hx hby 7 at_63 ?_
     refine o_iand X3 hx hby at_65 ?_
     obtain ⟨n2, hg5, hg5r⟩ : ∃ z : Int32, z = (((x5.toUInt32 >>> ((3 : Int32) &&& 31).toUInt32).toInt32) &&& (7 : Int32)) ∧ 0 ≤ z.toInt ∧ z.toInt ≤ 7 := ⟨_, rfl, own_and7 ((x5.toUInt32 >>> ((3 : Int32) &&& 31).toUInt32).toInt32)⟩
     rw [← hg5]
     clear hg5
     refine o_isw X3 hx hby at_66 #[vI x0, vJ x1, .second, vJ x3, .second, vI x5, vJ x6, .second, vI M, vJ mb, .second, vJ bd, .second, vI n1, vI n2, .unset, .unset, .unset, .unset, .unset, .unset, .unset, .unset, .unset, .unset, .unset, .unset, .unset] ?_
     refine o_iw X3 hx hby at_68 ?_
     refine o_bp X3 hx hby 6 at_70 ?_
     refine oS (fun _ κ => XS.iushr X3.here hx rfl (hb hby at_72) rfl κ) ?_
     show oG _ _ _ _ (T3.setTop (mkF m 73 #[vI x0, vJ x1, .second, vJ x3, .second, vI x5, vJ x6, .second, vI M, vJ mb, .second, vJ bd, .second, vI n1, vI n2, .unset, .unset, .unset, .unset, .unset, .unset, .unset, .unset, .unset, .unset, .unset, .unset, .unset] [(.int ((x5.toUInt32 >>> ((6 : Int32) &&& 31).toUInt32).toInt32))]))
     refine o_bp X3 hx hby 7 at_73 ?_
     refine o_iand X3 hx hby at_75 ?_
     obtain ⟨n3, hg6, hg6r⟩ : ∃ z : Int32, z = (((x5.toUInt32 >>> ((6 : Int32) &&& 31).toUInt32).toInt32) &&& (7 : Int32)) ∧ 0 ≤ z.toInt ∧ z.toInt ≤ 7 := ⟨_, rfl, own_and7 ((x5.toUInt32 >>> ((6 : Int32) &&& 31).toUInt32).toInt32)⟩
     rw [← hg6]
     clear hg6
     refine o_isw X3 hx hby at_76 #[vI x0, vJ x1, .second, vJ x3, .second, vI x5, vJ x6, .second, vI M, vJ mb, .second, vJ bd, .second, vI n1, vI n2, vI n3, .unset, .unset, .unset, .unset, .unset, .unset, .unset, .unset, .unset, .unset, .unset, .unset] ?_
     refine o_iw X3 hx hby at_78 ?_
     refine o_bp X3 hx hby 9 at_80 ?_
     refine oS (fun _ κ => XS.iushr X3.here hx rfl (hb hby at_82) rfl κ) ?_
     show oG _ _ _ _ (T3.setTop (mkF m 83 #[vI x0, vJ x1, .second, vJ x3, .second, vI x5, vJ x6, .second, vI M, vJ mb, .second, vJ bd, .second, vI n1, vI n2, vI n3, .unset, .unset, .unset, .unset, .unset, .unset, .unset, .unset, .unset, .unset, .unset, .unset] [(.int ((x5.toUInt32 >>> ((9 : Int32) &&& 31).toUInt32).toInt32))]))
     refine o_ic X3 hx hby 3 at_83 ?_
     refine o_iand X3 hx hby at_84 ?_
     obtain ⟨nn, hg7, hg7r⟩ : ∃ z : Int32, z = (((x5.toUInt32 >>> ((9 : Int32) &&& 31).toUInt32).toInt32) &&& (3 : Int32)) ∧ 0 ≤ z.toInt ∧ z.toInt ≤ 3 := ⟨_, rfl, own_and3 ((x5.toUInt32 >>> ((9 : Int32) &&& 31).toUInt32).toInt32)⟩
     rw [← hg7]
     clear hg7
     refine o_isw X3 hx hby at_85 #[vI x0, vJ x1, .second, vJ x3, .second, vI x5, vJ x6, .second, vI M, vJ mb, .second, vJ bd, .second, vI n1, vI n2, vI n3, vI nn, .unset, .unset, .unset, .unset, .unset, .unset, .unset, .unset, .unset, .unset, .unset] ?_
     show oG _ _ _ _ (T3.setTop (mkF m 87 #[vI x0, vJ x1, .second, vJ x3, .second, vI x5, vJ x6, .second, vI M, vJ mb, .second, vJ bd, .second, vI n1, vI n2, vI n3, vI nn, .unset, .unset, .unset, .unset, .unset, .unset, .unset, .unset, .unset, .unset, .unset] []))
     refine own_join (α := Int64) X3 e3 (fun T' pq => T'.setTop (mkF m 109 #[vI x0, vJ x1, .second, vJ x3, .second, vI x5, vJ x6, .second, vI M, vJ mb, .second, vJ bd, .second, vI n1, vI n2, vI n3, vI nn, .unset, .unset, .unset, .unset, .unset, .unset, .unset, .unset, .unset, .unset, .unset] [(.long pq)])) (fun pq => True) ?_ ?_
     · intro T8 pq X8 e8 pr8
       show oG _ _ _ _ (T8.setTop (mkF m 109 #[vI x0, vJ x1, .second, vJ x3, .second, vI x5, vJ x6, .second, vI M, vJ mb, .second, vJ bd, .second, vI n1, vI n2, vI n3, vI nn, .unset, .unset, .unset, .unset, .unset, .unset, .unset, .unset, .unset, .unset, .unset] [(.long pq)]))
       refine o_lsw X8 hx hby at_109 #[vI x0, vJ x1, .second, vJ x3, .second, vI x5, vJ x6, .second, vI M, vJ mb, .second, vJ bd, .second, vI n1, vI n2, vI n3, vI nn, vJ pq, .second, .unset, .unset, .unset, .unset, .unset, .unset, .unset, .unset, .unset] ?_
       show oG _ _ _ _ (T8.setTop (mkF m 111 #[vI x0, vJ x1, .second, vJ x3, .second, vI x5, vJ x6, .second, vI M, vJ mb, .second, vJ bd, .second, vI n1, vI n2, vI n3, vI nn, vJ pq, .second, .unset, .unset, .unset, .unset, .unset, .unset, .unset, .unset, .unset] []))
       obtain ⟨T9, h9, X9, e9, E9, A9, D9, U9, st9⟩ := newO X8 hx hZ hown (own_w hw 6 rfl) (own_w hw 7 rfl) (own_w hw 8 rfl) e8 (g := (mkF m 111 #[vI x0, vJ x1, .second, vJ x3, .second, vI x5, vJ x6, .second, vI M, vJ mb, .second, vJ bd, .second, vI n1, vI n2, vI n3, vI nn, vJ pq, .second, .unset, .unset, .unset, .unset, .unset, .unset, .unset, .unset, .unset] [])) rfl (hb hby at_111) (by decide) (by decide)
       obtain ⟨b9, g9⟩ : ∃ z, z = h0.size := ⟨_, rfl⟩
       rw [← g9] at A9 D9 U9 st9
       refine oS st9 ?_
       have ne10 : aD ≠ b9 := Nat.ne_of_lt (Nat.lt_of_lt_of_le (P2.ext P0.2).lt (Nat.le_of_eq g9.symm))
       have ge11 : n0 ≤ b9 := Nat.le_trans Z0 (Nat.le_of_eq g9.symm)
       have f12 := P0.ext E9
       have z13 := Nat.le_trans Z0 E9.1
       have F9_seq : oF0 Z h9 b9 (.long 0) := D9 (Or.inr (own_w hw 17 rfl)) (ty := .long) ft_2
       have F9_timeMs : oF21 Z h9 b9 (.long 0) := D9 (Or.inr (own_w hw 19 rfl)) (ty := .long) ft_2
       have F9_body : oF1 Z h9 b9 .null := D9 (Or.inr (own_w hw 21 rfl)) (ty := (.array .byte)) ft_5
       show oG _ _ _ _ (T9.setTop (mkF m 114 #[vI x0, vJ x1, .second, vJ x3, .second, vI x5, vJ x6, .second, vI M, vJ mb, .second, vJ bd, .second, vI n1, vI n2, vI n3, vI nn, vJ pq, .second, .unset, .unset, .unset, .unset, .unset, .unset, .unset, .unset, .unset] [(.ref b9)]))
       refine o_dup X9 hx hby at_114 ?_
       refine o_lc X9 hx hby 1 at_115 ?_
       refine o_lc X9 hx hby 0 at_116 ?_
       refine o_iw X9 hx hby at_117 ?_
       show oG _ _ _ _ (T9.setTop (mkF m 119 #[vI x0, vJ x1, .second, vJ x3, .second, vI x5, vJ x6, .second, vI M, vJ mb, .second, vJ bd, .second, vI n1, vI n2, vI n3, vI nn, vJ pq, .second, .unset, .unset, .unset, .unset, .unset, .unset, .unset, .unset, .unset] [(.int n1), (.long 0), (.long 1), (.ref b9), (.ref b9)]))
       obtain ⟨T14, h14, k14, X14, e14, E14, A14, Ex14, st14⟩ := newPE X9 hx hZ (own_w hw 9 rfl) e9 (g := (mkF m 119 #[vI x0, vJ x1, .second, vJ x3, .second, vI x5, vJ x6, .second, vI M, vJ mb, .second, vJ bd, .second, vI n1, vI n2, vI n3, vI nn, vJ pq, .second, .unset, .unset, .unset, .unset, .unset, .unset, .unset, .unset, .unset] [(.int n1), (.long 0), (.long 1), (.ref b9), (.ref b9)])) rfl (hb hby at_119) rfl (own_cap7 hg4r).1 (cap := 7) (own_cap7 hg4r).2 (by decide) (by decide) (by decide) (ad := "[B") rfl
       obtain ⟨b14, g14⟩ : ∃ z, z = h9.size := ⟨_, rfl⟩
       rw [← g14] at A14 Ex14 st14
       refine oS st14 ?_
       have ne15 : aD ≠ b14 := Nat.ne_of_lt (Nat.lt_of_lt_of_le (P2.ext f12.2).lt (Nat.le_of_eq g14.symm))
       have ne16 : b9 ≠ b14 := Nat.ne_of_lt (Nat.lt_of_lt_of_le A9.lt (Nat.le_of_eq g14.symm))
       have ge17 : n0 ≤ b14 := Nat.le_trans z13 (Nat.le_of_eq g14.symm)
       have f18 := f12.ext E14
       have f19 := A9.ext E14
       have f20 := F9_seq.ext E14
       have f21 := F9_timeMs.ext E14
       have f22 := F9_body.ext E14
       have z23 := Nat.le_trans z13 E14.1
       have V14 : own_By Z h14 b14 n1 own_zero := own_By.new A14 Ex14 (own_cap7 hg4r).1
       show oG _ _ _ _ (T14.setTop (mkF m 121 #[vI x0, vJ x1, .second, vJ x3, .second, vI x5, vJ x6, .second, vI M, vJ mb, .second, vJ bd, .second, vI n1, vI n2, vI n3, vI nn, vJ pq, .second, .unset, .unset, .unset, .unset, .unset, .unset, .unset, .unset, .unset] [(.ref b14), (.long 0), (.long 1), (.ref b9), (.ref b9)]))
       refine o_cK X14 hx hZ hown hw hml hby (rm48 l Z a0 hw [] b9 (1 : Int64) (0 : Int64) b14  h14 n0 z23 f19 f20 f21 f22 ge11) rfl e14 10 11 12 8 1 at_121 [(.long 1), (.long 0), (.ref b14)] [(.ref b9)] pd_32 hy_8 fun v24 T24 L24 hQ24 X24 => ?_
       obtain ⟨rfl, Nq24, Kq24, p24_0, p24_1⟩ := hQ24
       have N24 := Fr.app N0 Nq24
       have f25 := f18.keep Kq24 (allS ge11 all0)
       have f26 := f19.keep Kq24
       have f27 := V14.keep Kq24 (ninS (Ne.symm ne16) nin0)
       have z28 := Nat.le_trans z23 Kq24.1
       refine oN ?_
       refine o_asw X24 hx hby at_124 #[vI x0, vJ x1, .second, vJ x3, .second, vI x5, vJ x6, .second, vI M, vJ mb, .second, vJ bd, .second, vI n1, vI n2, vI n3, vI nn, vJ pq, .second, vR b9, .unset, .unset, .unset, .unset, .unset, .unset, .unset, .unset] ?_
       show oG _ _ _ _ (T24.setTop (mkF m 126 #[vI x0, vJ x1, .second, vJ x3, .second, vI x5, vJ x6, .second, vI M, vJ mb, .second, vJ bd, .second, vI n1, vI n2, vI n3, vI nn, vJ pq, .second, vR b9, .unset, .unset, .unset, .unset, .unset, .unset, .unset, .unset] []))
       have Ev29 : own_Ev Z T24.heap b9 b14 (1 : Int64) n1 := ⟨f26, p24_0, p24_1, f27⟩
       show oG _ _ _ _ (T24.setTop (mkF m 126 #[vI x0, vJ x1, .second, vJ x3, .second, vI x5, vJ x6, .second, vI M, vJ mb, .second, vJ bd, .second, vI n1, vI n2, vI n3, vI nn, vJ pq, .second, vR b9, .unset, .unset, .unset, .unset, .unset, .unset, .unset, .unset] []))
       obtain ⟨T30, h30, X30, e30, E30, A30, D30, U30, st30⟩ := newO X24 hx hZ hown (own_w hw 6 rfl) (own_w hw 7 rfl) (own_w hw 8 rfl) rfl (g := (mkF m 126 #[vI x0, vJ x1, .second, vJ x3, .second, vI x5, vJ x6, .second, vI M, vJ mb, .second, vJ bd, .second, vI n1, vI n2, vI n3, vI nn, vJ pq, .second, vR b9, .unset, .unset, .unset, .unset, .unset, .unset, .unset, .unset] [])) rfl (hb hby at_126) (by decide) (by decide)
       obtain ⟨b30, g30⟩ : ∃ z, z = T24.heap.size := ⟨_, rfl⟩
       rw [← g30] at A30 D30 U30 st30
       refine oS st30 ?_
       have ne31 : aD ≠ b30 := Nat.ne_of_lt (Nat.lt_of_lt_of_le (P2.ext f25.2).lt (Nat.le_of_eq g30.symm))
       have ne32 : b9 ≠ b30 := Nat.ne_of_lt (Nat.lt_of_lt_of_le (Ev29.1).lt (Nat.le_of_eq g30.symm))
       have ne33 : b14 ≠ b30 := Nat.ne_of_lt (Nat.lt_of_lt_of_le (Ev29.2.2.2).lt (Nat.le_of_eq g30.symm))
       have ge34 : n0 ≤ b30 := Nat.le_trans z28 (Nat.le_of_eq g30.symm)
       have f35 := f25.ext E30
       have f36 := Ev29.ext E30
       have z37 := Nat.le_trans z28 E30.1
       have F30_seq : oF0 Z h30 b30 (.long 0) := D30 (Or.inr (own_w hw 17 rfl)) (ty := .long) ft_2
       have F30_timeMs : oF21 Z h30 b30 (.long 0) := D30 (Or.inr (own_w hw 19 rfl)) (ty := .long) ft_2
       have F30_body : oF1 Z h30 b30 .null := D30 (Or.inr (own_w hw 21 rfl)) (ty := (.array .byte)) ft_5
       show oG _ _ _ _ (T30.setTop (mkF m 129 #[vI x0, vJ x1, .second, vJ x3, .second, vI x5, vJ x6, .second, vI M, vJ mb, .second, vJ bd, .second, vI n1, vI n2, vI n3, vI nn, vJ pq, .second, vR b9, .unset, .unset, .unset, .unset, .unset, .unset, .unset, .unset] [(.ref b30)]))
       refine o_dup X30 hx hby at_129 ?_
       refine oS (fun _ κ => X30.ldc2Long hx hown (mvT hZ (own_w hw 5 rfl)) (g := (mkF m 130 #[vI x0, vJ x1, .second, vJ x3, .second, vI x5, vJ x6, .second, vI M, vJ mb, .second, vJ bd, .second, vI n1, vI n2, vI n3, vI nn, vJ pq, .second, vR b9, .unset, .unset, .unset, .unset, .unset, .unset, .unset, .unset] [(.ref b30), (.ref b30)])) rfl (hb hby at_130) _ κ) ?_
       show oG _ _ _ _ (T30.setTop (mkF m 133 #[vI x0, vJ x1, .second, vJ x3, .second, vI x5, vJ x6, .second, vI M, vJ mb, .second, vJ bd, .second, vI n1, vI n2, vI n3, vI nn, vJ pq, .second, vR b9, .unset, .unset, .unset, .unset, .unset, .unset, .unset, .unset] [(.long 2), (.ref b30), (.ref b30)]))
       refine o_lc X30 hx hby 0 at_133 ?_
       refine o_iw X30 hx hby at_134 ?_
       show oG _ _ _ _ (T30.setTop (mkF m 136 #[vI x0, vJ x1, .second, vJ x3, .second, vI x5, vJ x6, .second, vI M, vJ mb, .second, vJ bd, .second, vI n1, vI n2, vI n3, vI nn, vJ pq, .second, vR b9, .unset, .unset, .unset, .unset, .unset, .unset, .unset, .unset] [(.int n2), (.long 0), (.long 2), (.ref b30), (.ref b30)]))
       obtain ⟨T38, h38, k38, X38, e38, E38, A38, Ex38, st38⟩ := newPE X30 hx hZ (own_w hw 9 rfl) e30 (g := (mkF m 136 #[vI x0, vJ x1, .second, vJ x3, .second, vI x5, vJ x6, .second, vI M, vJ mb, .second, vJ bd, .second, vI n1, vI n2, vI n3, vI nn, vJ pq, .second, vR b9, .unset, .unset, .unset, .unset, .unset, .unset, .unset, .unset] [(.int n2), (.long 0), (.long 2), (.ref b30), (.ref b30)])) rfl (hb hby at_136) rfl (own_cap7 hg5r).1 (cap := 7) (own_cap7 hg5r).2 (by decide) (by decide) (by decide) (ad := "[B") rfl
       obtain ⟨b38, g38⟩ : ∃ z, z = h30.size := ⟨_, rfl⟩
       rw [← g38] at A38 Ex38 st38
       refine oS st38 ?_
       have ne39 : aD ≠ b38 := Nat.ne_of_lt (Nat.lt_of_lt_of_le (P2.ext f35.2).lt (Nat.le_of_eq g38.symm))
       have ne40 : b9 ≠ b38 := Nat.ne_of_lt (Nat.lt_of_lt_of_le (f36.1).lt (Nat.le_of_eq g38.symm))
       have ne41 : b14 ≠ b38 := Nat.ne_of_lt (Nat.lt_of_lt_of_le (f36.2.2.2).lt (Nat.le_of_eq g38.symm))
       have ne42 : b30 ≠ b38 := Nat.ne_of_lt (Nat.lt_of_lt_of_le A30.lt (Nat.le_of_eq g38.symm))
       have ge43 : n0 ≤ b38 := Nat.le_trans z37 (Nat.le_of_eq g38.symm)
       have f44 := f35.ext E38
       have f45 := f36.ext E38
       have f46 := A30.ext E38
       have f47 := F30_seq.ext E38
       have f48 := F30_timeMs.ext E38
       have f49 := F30_body.ext E38
       have z50 := Nat.le_trans z37 E38.1
       have V38 : own_By Z h38 b38 n2 own_zero := own_By.new A38 Ex38 (own_cap7 hg5r).1
       show oG _ _ _ _ (T38.setTop (mkF m 138 #[vI x0, vJ x1, .second, vJ x3, .second, vI x5, vJ x6, .second, vI M, vJ mb, .second, vJ bd, .second, vI n1, vI n2, vI n3, vI nn, vJ pq, .second, vR b9, .unset, .unset, .unset, .unset, .unset, .unset, .unset, .unset] [(.ref b38), (.long 0), (.long 2), (.ref b30), (.ref b30)]))
       refine o_cK X38 hx hZ hown hw hml hby (rm48 l Z a0 hw [] b30 (2 : Int64) (0 : Int64) b38  h38 n0 z50 f46 f47 f48 f49 ge34) rfl e38 10 11 12 8 1 at_138 [(.long 2), (.long 0), (.ref b38)] [(.ref b30)] pd_32 hy_8 fun v51 T51 L51 hQ51 X51 => ?_
       obtain ⟨rfl, Nq51, Kq51, p51_0, p51_1⟩ := hQ51
       have N51 := Fr.app N24 Nq51
       have f52 := f44.keep Kq51 (allS ge34 all0)
       have f53 := f45.keep Kq51 (ninS ne32 nin0) (ninS ne33 nin0)
       have f54 := f46.keep Kq51
       have f55 := V38.keep Kq51 (ninS (Ne.symm ne42) nin0)
       have z56 := Nat.le_trans z50 Kq51.1
       refine oN ?_
       refine o_asw X51 hx hby at_141 #[vI x0, vJ x1, .second, vJ x3, .second, vI x5, vJ x6, .second, vI M, vJ mb, .second, vJ bd, .second, vI n1, vI n2, vI n3, vI nn, vJ pq, .second, vR b9, vR b30, .unset, .unset, .unset, .unset, .unset, .unset, .unset] ?_
       show oG _ _ _ _ (T51.setTop (mkF m 143 #[vI x0, vJ x1, .second, vJ x3, .second, vI x5, vJ x6, .second, vI M, vJ mb, .second, vJ bd, .second, vI n1, vI n2, vI n3, vI nn, vJ pq, .second, vR b9, vR b30, .unset, .unset, .unset, .unset, .unset, .unset, .unset] []))
       have Ev57 : own_Ev Z T51.heap b30 b38 (2 : Int64) n2 := ⟨f54, p51_0, p51_1, f55⟩
       show oG _ _ _ _ (T51.setTop (mkF m 143 #[vI x0, vJ x1, .second, vJ x3, .second, vI x5, vJ x6, .second, vI M, vJ mb, .second, vJ bd, .second, vI n1, vI n2, vI n3, vI nn, vJ pq, .second, vR b9, vR b30, .unset, .unset, .unset, .unset, .unset, .unset, .unset] []))
       obtain ⟨T58, h58, X58, e58, E58, A58, D58, U58, st58⟩ := newO X51 hx hZ hown (own_w hw 6 rfl) (own_w hw 7 rfl) (own_w hw 8 rfl) rfl (g := (mkF m 143 #[vI x0, vJ x1, .second, vJ x3, .second, vI x5, vJ x6, .second, vI M, vJ mb, .second, vJ bd, .second, vI n1, vI n2, vI n3, vI nn, vJ pq, .second, vR b9, vR b30, .unset, .unset, .unset, .unset, .unset, .unset, .unset] [])) rfl (hb hby at_143) (by decide) (by decide)
       obtain ⟨b58, g58⟩ : ∃ z, z = T51.heap.size := ⟨_, rfl⟩
       rw [← g58] at A58 D58 U58 st58
       refine oS st58 ?_
       have ne59 : aD ≠ b58 := Nat.ne_of_lt (Nat.lt_of_lt_of_le (P2.ext f52.2).lt (Nat.le_of_eq g58.symm))
       have ne60 : b9 ≠ b58 := Nat.ne_of_lt (Nat.lt_of_lt_of_le (f53.1).lt (Nat.le_of_eq g58.symm))
       have ne61 : b14 ≠ b58 := Nat.ne_of_lt (Nat.lt_of_lt_of_le (f53.2.2.2).lt (Nat.le_of_eq g58.symm))
       have ne62 : b30 ≠ b58 := Nat.ne_of_lt (Nat.lt_of_lt_of_le (Ev57.1).lt (Nat.le_of_eq g58.symm))
       have ne63 : b38 ≠ b58 := Nat.ne_of_lt (Nat.lt_of_lt_of_le (Ev57.2.2.2).lt (Nat.le_of_eq g58.symm))
       have ge64 : n0 ≤ b58 := Nat.le_trans z56 (Nat.le_of_eq g58.symm)
       have f65 := f52.ext E58
       have f66 := f53.ext E58
       have f67 := Ev57.ext E58
       have z68 := Nat.le_trans z56 E58.1
       have F58_seq : oF0 Z h58 b58 (.long 0) := D58 (Or.inr (own_w hw 17 rfl)) (ty := .long) ft_2
       have F58_timeMs : oF21 Z h58 b58 (.long 0) := D58 (Or.inr (own_w hw 19 rfl)) (ty := .long) ft_2
       have F58_body : oF1 Z h58 b58 .null := D58 (Or.inr (own_w hw 21 rfl)) (ty := (.array .byte)) ft_5
       show oG _ _ _ _ (T58.setTop (mkF m 146 #[vI x0, vJ x1, .second, vJ x3, .second, vI x5, vJ x6, .second, vI M, vJ mb, .second, vJ bd, .second, vI n1, vI n2, vI n3, vI nn, vJ pq, .second, vR b9, vR b30, .unset, .unset, .unset, .unset, .unset, .unset, .unset] [(.ref b58)]))
       refine o_dup X58 hx hby at_146 ?_
       refine oS (fun _ κ => X58.ldc2Long hx hown (mvT hZ (own_w hw 22 rfl)) (g := (mkF m 147 #[vI x0, vJ x1, .second, vJ x3, .second, vI x5, vJ x6, .second, vI M, vJ mb, .second, vJ bd, .second, vI n1, vI n2, vI n3, vI nn, vJ pq, .second, vR b9, vR b30, .unset, .unset, .unset, .unset, .unset, .unset, .unset] [(.ref b58), (.ref b58)])) rfl (hb hby at_147) _ κ) ?_
       show oG _ _ _ _ (T58.setTop (mkF m 150 #[vI x0, vJ x1, .second, vJ x3, .second, vI x5, vJ x6, .second, vI M, vJ mb, .second, vJ bd, .second, vI n1, vI n2, vI n3, vI nn, vJ pq, .second, vR b9, vR b30, .unset, .unset, .unset, .unset, .unset, .unset, .unset] [(.long 3), (.ref b58), (.ref b58)]))
       refine o_lc X58 hx hby 0 at_150 ?_
       refine o_iw X58 hx hby at_151 ?_
       show oG _ _ _ _ (T58.setTop (mkF m 153 #[vI x0, vJ x1, .second, vJ x3, .second, vI x5, vJ x6, .second, vI M, vJ mb, .second, vJ bd, .second, vI n1, vI n2, vI n3, vI nn, vJ pq, .second, vR b9, vR b30, .unset, .unset, .unset, .unset, .unset, .unset, .unset] [(.int n3), (.long 0), (.long 3), (.ref b58), (.ref b58)]))
       obtain ⟨T69, h69, k69, X69, e69, E69, A69, Ex69, st69⟩ := newPE X58 hx hZ (own_w hw 9 rfl) e58 (g := (mkF m 153 #[vI x0, vJ x1, .second, vJ x3, .second, vI x5, vJ x6, .second, vI M, vJ mb, .second, vJ bd, .second, vI n1, vI n2, vI n3, vI nn, vJ pq, .second, vR b9, vR b30, .unset, .unset, .unset, .unset, .unset, .unset, .unset] [(.int n3), (.long 0), (.long 3), (.ref b58), (.ref b58)])) rfl (hb hby at_153) rfl (own_cap7 hg6r).1 (cap := 7) (own_cap7 hg6r).2 (by decide) (by decide) (by decide) (ad := "[B") rfl
       obtain ⟨b69, g69⟩ : ∃ z, z = h58.size := ⟨_, rfl⟩
       rw [← g69] at A69 Ex69 st69
       refine oS st69 ?_
       have ne70 : aD ≠ b69 := Nat.ne_of_lt (Nat.lt_of_lt_of_le (P2.ext f65.2).lt (Nat.le_of_eq g69.symm))
       have ne71 : b9 ≠ b69 := Nat.ne_of_lt (Nat.lt_of_lt_of_le (f66.1).lt (Nat.le_of_eq g69.symm))
       have ne72 : b14 ≠ b69 := Nat.ne_of_lt (Nat.lt_of_lt_of_le (f66.2.2.2).lt (Nat.le_of_eq g69.symm))
       have ne73 : b30 ≠ b69 := Nat.ne_of_lt (Nat.lt_of_lt_of_le (f67.1).lt (Nat.le_of_eq g69.symm))
       have ne74 : b38 ≠ b69 := Nat.ne_of_lt (Nat.lt_of_lt_of_le (f67.2.2.2).lt (Nat.le_of_eq g69.symm))
       have ne75 : b58 ≠ b69 := Nat.ne_of_lt (Nat.lt_of_lt_of_le A58.lt (Nat.le_of_eq g69.symm))
       have ge76 : n0 ≤ b69 := Nat.le_trans z68 (Nat.le_of_eq g69.symm)
       have f77 := f65.ext E69
       have f78 := f66.ext E69
       have f79 := f67.ext E69
       have f80 := A58.ext E69
       have f81 := F58_seq.ext E69
       have f82 := F58_timeMs.ext E69
       have f83 := F58_body.ext E69
       have z84 := Nat.le_trans z68 E69.1
       have V69 : own_By Z h69 b69 n3 own_zero := own_By.new A69 Ex69 (own_cap7 hg6r).1
       show oG _ _ _ _ (T69.setTop (mkF m 155 #[vI x0, vJ x1, .second, vJ x3, .second, vI x5, vJ x6, .second, vI M, vJ mb, .second, vJ bd, .second, vI n1, vI n2, vI n3, vI nn, vJ pq, .second, vR b9, vR b30, .unset, .unset, .unset, .unset, .unset, .unset, .unset] [(.ref b69), (.long 0), (.long 3), (.ref b58), (.ref b58)]))
       refine o_cK X69 hx hZ hown hw hml hby (rm48 l Z a0 hw [] b58 (3 : Int64) (0 : Int64) b69  h69 n0 z84 f80 f81 f82 f83 ge64) rfl e69 10 11 12 8 1 at_155 [(.long 3), (.long 0), (.ref b69)] [(.ref b58)] pd_32 hy_8 fun v85 T85 L85 hQ85 X85 => ?_
       obtain ⟨rfl, Nq85, Kq85, p85_0, p85_1⟩ := hQ85
       have N85 := Fr.app N51 Nq85
       have f86 := f77.keep Kq85 (allS ge64 all0)
       have f87 := f78.keep Kq85 (ninS ne60 nin0) (ninS ne61 nin0)
       have f88 := f79.keep Kq85 (ninS ne62 nin0) (ninS ne63 nin0)
       have f89 := f80.keep Kq85
       have f90 := V69.keep Kq85 (ninS (Ne.symm ne75) nin0)
       have z91 := Nat.le_trans z84 Kq85.1
       refine oN ?_
       refine o_asw X85 hx hby at_158 #[vI x0, vJ x1, .second, vJ x3, .second, vI x5, vJ x6, .second, vI M, vJ mb, .second, vJ bd, .second, vI n1, vI n2, vI n3, vI nn, vJ pq, .second, vR b9, vR b30, vR b58, .unset, .unset, .unset, .unset, .unset, .unset] ?_
       show oG _ _ _ _ (T85.setTop (mkF m 160 #[vI x0, vJ x1, .second, vJ x3, .second, vI x5, vJ x6, .second, vI M, vJ mb, .second, vJ bd, .second, vI n1, vI n2, vI n3, vI nn, vJ pq, .second, vR b9, vR b30, vR b58, .unset, .unset, .unset, .unset, .unset, .unset] []))
       have Ev92 : own_Ev Z T85.heap b58 b69 (3 : Int64) n3 := ⟨f89, p85_0, p85_1, f90⟩
       show oG _ _ _ _ (T85.setTop (mkF m 160 #[vI x0, vJ x1, .second, vJ x3, .second, vI x5, vJ x6, .second, vI M, vJ mb, .second, vJ bd, .second, vI n1, vI n2, vI n3, vI nn, vJ pq, .second, vR b9, vR b30, vR b58, .unset, .unset, .unset, .unset, .unset, .unset] []))
       refine o_ic X85 hx hby 4 at_160 ?_
       show oG _ _ _ _ (T85.setTop (mkF m 161 #[vI x0, vJ x1, .second, vJ x3, .second, vI x5, vJ x6, .second, vI M, vJ mb, .second, vJ bd, .second, vI n1, vI n2, vI n3, vI nn, vJ pq, .second, vR b9, vR b30, vR b58, .unset, .unset, .unset, .unset, .unset, .unset] [(.int 4)]))
       obtain ⟨T93, h93, k93, X93, e93, E93, A93, Ex93, O93, st93⟩ := newRE X85 hx hZ hown (own_w hw 6 rfl) (own_w hw 23 rfl) rfl (g := (mkF m 161 #[vI x0, vJ x1, .second, vJ x3, .second, vI x5, vJ x6, .second, vI M, vJ mb, .second, vJ bd, .second, vI n1, vI n2, vI n3, vI nn, vJ pq, .second, vR b9, vR b30, vR b58, .unset, .unset, .unset, .unset, .unset, .unset] [(.int 4)])) rfl (hb hby at_161) rfl (by decide) (cap := 4) (by decide) (by decide) (by decide) (by decide) (ad := "[Lcom/example/lockstep/lockstep/session/Event;") (by decide)
       obtain ⟨b93, g93⟩ : ∃ z, z = T85.heap.size := ⟨_, rfl⟩
       rw [← g93] at A93 Ex93 st93
       refine oS st93 ?_
       have ne94 : aD ≠ b93 := Nat.ne_of_lt (Nat.lt_of_lt_of_le (P2.ext f86.2).lt (Nat.le_of_eq g93.symm))
       have ne95 : b9 ≠ b93 := Nat.ne_of_lt (Nat.lt_of_lt_of_le (f87.1).lt (Nat.le_of_eq g93.symm))
       have ne96 : b14 ≠ b93 := Nat.ne_of_lt (Nat.lt_of_lt_of_le (f87.2.2.2).lt (Nat.le_of_eq g93.symm))
       have ne97 : b30 ≠ b93 := Nat.ne_of_lt (Nat.lt_of_lt_of_le (f88.1).lt (Nat.le_of_eq g93.symm))
       have ne98 : b38 ≠ b93 := Nat.ne_of_lt (Nat.lt_of_lt_of_le (f88.2.2.2).lt (Nat.le_of_eq g93.symm))
       have ne99 : b58 ≠ b93 := Nat.ne_of_lt (Nat.lt_of_lt_of_le (Ev92.1).lt (Nat.le_of_eq g93.symm))
       have ne100 : b69 ≠ b93 := Nat.ne_of_lt (Nat.lt_of_lt_of_le (Ev92.2.2.2).lt (Nat.le_of_eq g93.symm))
       have ge101 : n0 ≤ b93 := Nat.le_trans z91 (Nat.le_of_eq g93.symm)
       have f102 := f86.ext E93
       have f103 := f87.ext E93
       have f104 := f88.ext E93
       have f105 := Ev92.ext E93
       have z106 := Nat.le_trans z91 E93.1
       have V93 : own_RE Z h93 b93 (4 : Int32) own_nulls := own_Rg.new A93 O93 Ex93 (by decide) (Nat.le_trans (m := 4) (by decide) (by decide))
       show oG _ _ _ _ (T93.setTop (mkF m 164 #[vI x0, vJ x1, .second, vJ x3, .second, vI x5, vJ x6, .second, vI M, vJ mb, .second, vJ bd, .second, vI n1, vI n2, vI n3, vI nn, vJ pq, .second, vR b9, vR b30, vR b58, .unset, .unset, .unset, .unset, .unset, .unset] [(.ref b93)]))
       refine o_dup X93 hx hby at_164 ?_
       refine o_ic X93 hx hby 0 at_165 ?_
       refine o_an X93 hx hby at_166 ?_
       obtain ⟨cl107, Ar107, Sz107, Nz107, Ov107, -⟩ := V93.opened
       have hin107 := inb_of (j := (0 : Int32)) Sz107 ⟨by decide, by decide⟩
       obtain ⟨T107, h107, X107, e107, W107, st107⟩ := stR X93 hx hZ e93 Ar107 (j := (0 : Int32)) (v := .null) hin107 rfl (Or.inl rfl) (g := (mkF m 167 #[vI x0, vJ x1, .second, vJ x3, .second, vI x5, vJ x6, .second, vI M, vJ mb, .second, vJ bd, .second, vI n1, vI n2, vI n3, vI nn, vJ pq, .second, vR b9, vR b30, vR b58, .unset, .unset, .unset, .unset, .unset, .unset] [.null, (.int 0), (.ref b93), (.ref b93)])) rfl rfl (hb hby at_167)
       refine oS st107 ?_
       have N107 := Fr.snoc X107 N85 ge101
       have V107 : own_RE Z h107 b93 (4 : Int32) (own_updV own_nulls (0 : Int32).toNatClampNeg .null) := V93.set W107 ⟨by decide, by decide⟩ rfl
       have f108 := f102.wr W107 ge101
       have f109 := f103.other W107 ne95 ne96
       have f110 := f104.other W107 ne97 ne98
       have f111 := f105.other W107 ne99 ne100
       have z112 := Nat.le_trans z106 (Keep.of_wr W107).1
       show oG _ _ _ _ (T107.setTop (mkF m 168 #[vI x0, vJ x1, .second, vJ x3, .second, vI x5, vJ x6, .second, vI M, vJ mb, .second, vJ bd, .second, vI n1, vI n2, vI n3, vI nn, vJ pq, .second, vR b9, vR b30, vR b58, .unset, .unset, .unset, .unset, .unset, .unset] [(.ref b93)]))
       refine o_dup X107 hx hby at_168 ?_
       refine o_ic X107 hx hby 1 at_169 ?_
       refine o_aw X107 hx hby at_170 ?_
       obtain ⟨cl113, Ar113, Sz113, Nz113, Ov113, -⟩ := V107.opened
       have hin113 := inb_of (j := (1 : Int32)) Sz113 ⟨by decide, by decide⟩
       obtain ⟨T113, h113, X113, e113, W113, st113⟩ := stR X107 hx hZ e107 Ar113 (j := (1 : Int32)) (v := (.ref b9)) hin113 rfl (Sto.of Ar113 Ov113 (Ins.self (f109.1))) (g := (mkF m 172 #[vI x0, vJ x1, .second, vJ x3, .second, vI x5, vJ x6, .second, vI M, vJ mb, .second, vJ bd, .second, vI n1, vI n2, vI n3, vI nn, vJ pq, .second, vR b9, vR b30, vR b58, .unset, .unset, .unset, .unset, .unset, .unset] [(.ref b9), (.int 1), (.ref b93), (.ref b93)])) rfl rfl (hb hby at_172)
       refine oS st113 ?_
       have N113 := Fr.snoc X113 N107 ge101
       have V113 : own_RE Z h113 b93 (4 : Int32) (own_updV (own_updV own_nulls (0 : Int32).toNatClampNeg .null) (1 : Int32).toNatClampNeg (.ref b9)) := V107.set W113 ⟨by decide, by decide⟩ rfl
       have f114 := f108.wr W113 ge101
       have f115 := f109.other W113 ne95 ne96
       have f116 := f110.other W113 ne97 ne98
       have f117 := f111.other W113 ne99 ne100
       have z118 := Nat.le_trans z112 (Keep.of_wr W113).1
       show oG _ _ _ _ (T113.setTop (mkF m 173 #[vI x0, vJ x1, .second, vJ x3, .second, vI x5, vJ x6, .second, vI M, vJ mb, .second, vJ bd, .second, vI n1, vI n2, vI n3, vI nn, vJ pq, .second, vR b9, vR b30, vR b58, .unset, .unset, .unset, .unset, .unset, .unset] [(.ref b93)]))
       refine o_dup X113 hx hby at_173 ?_
       refine o_ic X113 hx hby 2 at_174 ?_
       refine o_aw X113 hx hby at_175 ?_
       obtain ⟨cl119, Ar119, Sz119, Nz119, Ov119, -⟩ := V113.opened
       have hin119 := inb_of (j := (2 : Int32)) Sz119 ⟨by decide, by decide⟩
       obtain ⟨T119, h119, X119, e119, W119, st119⟩ := stR X113 hx hZ e113 Ar119 (j := (2 : Int32)) (v := (.ref b30)) hin119 rfl (Sto.of Ar119 Ov119 (Ins.self (f116.1))) (g := (mkF m 177 #[vI x0, vJ x1, .second, vJ x3, .second, vI x5, vJ x6, .second, vI M, vJ mb, .second, vJ bd, .second, vI n1, vI n2, vI n3, vI nn, vJ pq, .second, vR b9, vR b30, vR b58, .unset, .unset, .unset, .unset, .unset, .unset] [(.ref b30), (.int 2), (.ref b93), (.ref b93)])) rfl rfl (hb hby at_177)
       refine oS st119 ?_
       have N119 := Fr.snoc X119 N113 ge101
       have V119 : own_RE Z h119 b93 (4 : Int32) (own_updV (own_updV (own_updV own_nulls (0 : Int32).toNatClampNeg .null) (1 : Int32).toNatClampNeg (.ref b9)) (2 : Int32).toNatClampNeg (.ref b30)) := V113.set W119 ⟨by decide, by decide⟩ rfl
       have f120 := f114.wr W119 ge101
       have f121 := f115.other W119 ne95 ne96
       have f122 := f116.other W119 ne97 ne98
       have f123 := f117.other W119 ne99 ne100
       have z124 := Nat.le_trans z118 (Keep.of_wr W119).1
       show oG _ _ _ _ (T119.setTop (mkF m 178 #[vI x0, vJ x1, .second, vJ x3, .second, vI x5, vJ x6, .second, vI M, vJ mb, .second, vJ bd, .second, vI n1, vI n2, vI n3, vI nn, vJ pq, .second, vR b9, vR b30, vR b58, .unset, .unset, .unset, .unset, .unset, .unset] [(.ref b93)]))
       refine o_dup X119 hx hby at_178 ?_
       refine o_ic X119 hx hby 3 at_179 ?_
       refine o_aw X119 hx hby at_180 ?_
       obtain ⟨cl125, Ar125, Sz125, Nz125, Ov125, -⟩ := V119.opened
       have hin125 := inb_of (j := (3 : Int32)) Sz125 ⟨by decide, by decide⟩
       obtain ⟨T125, h125, X125, e125, W125, st125⟩ := stR X119 hx hZ e119 Ar125 (j := (3 : Int32)) (v := (.ref b58)) hin125 rfl (Sto.of Ar125 Ov125 (Ins.self (f123.1))) (g := (mkF m 182 #[vI x0, vJ x1, .second, vJ x3, .second, vI x5, vJ x6, .second, vI M, vJ mb, .second, vJ bd, .second, vI n1, vI n2, vI n3, vI nn, vJ pq, .second, vR b9, vR b30, vR b58, .unset, .unset, .unset, .unset, .unset, .unset] [(.ref b58), (.int 3), (.ref b93), (.ref b93)])) rfl rfl (hb hby at_182)
       refine oS st125 ?_
       have N125 := Fr.snoc X125 N119 ge101
       have V125 : own_RE Z h125 b93 (4 : Int32) (own_updV (own_updV (own_updV (own_updV own_nulls (0 : Int32).toNatClampNeg .null) (1 : Int32).toNatClampNeg (.ref b9)) (2 : Int32).toNatClampNeg (.ref b30)) (3 : Int32).toNatClampNeg (.ref b58)) := V119.set W125 ⟨by decide, by decide⟩ rfl
       have f126 := f120.wr W125 ge101
       have f127 := f121.other W125 ne95 ne96
       have f128 := f122.other W125 ne97 ne98
       have f129 := f123.other W125 ne99 ne100
       have z130 := Nat.le_trans z124 (Keep.of_wr W125).1
       show oG _ _ _ _ (T125.setTop (mkF m 183 #[vI x0, vJ x1, .second, vJ x3, .second, vI x5, vJ x6, .second, vI M, vJ mb, .second, vJ bd, .second, vI n1, vI n2, vI n3, vI nn, vJ pq, .second, vR b9, vR b30, vR b58, .unset, .unset, .unset, .unset, .unset, .unset] [(.ref b93)]))
       obtain ⟨fv, V131, a131_0, a131_1, a131_2⟩ : ∃ fv : Nat → Value, own_RE Z h125 b93 (4 : Int32) fv ∧ fv (1 : Int32).toNatClampNeg = .ref b9 ∧ fv (2 : Int32).toNatClampNeg = .ref b30 ∧ fv (3 : Int32).toNatClampNeg = .ref b58 := ⟨_, V125, own_uv1 _ _ _ _ _, own_uv2 _ _ _ _ _, own_uv3 _ _ _ _ _⟩
       show oG _ _ _ _ (T125.setTop (mkF m 183 #[vI x0, vJ x1, .second, vJ x3, .second, vI x5, vJ x6, .second, vI M, vJ mb, .second, vJ bd, .second, vI n1, vI n2, vI n3, vI nn, vJ pq, .second, vR b9, vR b30, vR b58, .unset, .unset, .unset, .unset, .unset, .unset] [(.ref b93)]))
       refine o_asw X125 hx hby at_183 #[vI x0, vJ x1, .second, vJ x3, .second, vI x5, vJ x6, .second, vI M, vJ mb, .second, vJ bd, .second, vI n1, vI n2, vI n3, vI nn, vJ pq, .second, vR b9, vR b30, vR b58, vR b93, .unset, .unset, .unset, .unset, .unset] ?_
       refine o_ic X125 hx hby 4 at_185 ?_
       show oG _ _ _ _ (T125.setTop (mkF m 186 #[vI x0, vJ x1, .second, vJ x3, .second, vI x5, vJ x6, .second, vI M, vJ mb, .second, vJ bd, .second, vI n1, vI n2, vI n3, vI nn, vJ pq, .second, vR b9, vR b30, vR b58, vR b93, .unset, .unset, .unset, .unset, .unset] [(.int 4)]))
       obtain ⟨T132, h132, k132, X132, e132, E132, A132, st132⟩ := newP X125 hx hZ (own_w hw 25 rfl) e125 (g := (mkF m 186 #[vI x0, vJ x1, .second, vJ x3, .second, vI x5, vJ x6, .second, vI M, vJ mb, .second, vJ bd, .second, vI n1, vI n2, vI n3, vI nn, vJ pq, .second, vR b9, vR b30, vR b58, vR b93, .unset, .unset, .unset, .unset, .unset] [(.int 4)])) rfl (hb hby at_186) rfl (by decide) (cap := 4) (by decide) (by decide) (by decide) (by decide)
       obtain ⟨b132, g132⟩ : ∃ z, z = h125.size := ⟨_, rfl⟩
       rw [← g132] at A132 st132
       refine oS st132 ?_
       have ne133 : aD ≠ b132 := Nat.ne_of_lt (Nat.lt_of_lt_of_le (P2.ext f126.2).lt (Nat.le_of_eq g132.symm))
       have ne134 : b9 ≠ b132 := Nat.ne_of_lt (Nat.lt_of_lt_of_le (f127.1).lt (Nat.le_of_eq g132.symm))
       have ne135 : b14 ≠ b132 := Nat.ne_of_lt (Nat.lt_of_lt_of_le (f127.2.2.2).lt (Nat.le_of_eq g132.symm))
       have ne136 : b30 ≠ b132 := Nat.ne_of_lt (Nat.lt_of_lt_of_le (f128.1).lt (Nat.le_of_eq g132.symm))
       have ne137 : b38 ≠ b132 := Nat.ne_of_lt (Nat.lt_of_lt_of_le (f128.2.2.2).lt (Nat.le_of_eq g132.symm))
       have ne138 : b58 ≠ b132 := Nat.ne_of_lt (Nat.lt_of_lt_of_le (f129.1).lt (Nat.le_of_eq g132.symm))
       have ne139 : b69 ≠ b132 := Nat.ne_of_lt (Nat.lt_of_lt_of_le (f129.2.2.2).lt (Nat.le_of_eq g132.symm))
       have ne140 : b93 ≠ b132 := Nat.ne_of_lt (Nat.lt_of_lt_of_le V131.lt (Nat.le_of_eq g132.symm))
       have ge141 : n0 ≤ b132 := Nat.le_trans z130 (Nat.le_of_eq g132.symm)
       have f142 := f126.ext E132
       have f143 := f127.ext E132
       have f144 := f128.ext E132
       have f145 := f129.ext E132
       have f146 := V131.ext E132
       have z147 := Nat.le_trans z130 E132.1
       have V132 : Arv Z h132 b132 k132 .int (4 : Int32) [(.int 0), (.int 0), (.int 0), (.int 0)] (.int 0) := (Arv.new A132 (by decide)).pad (pad_rep [] (.int 0) 4)
       show oG _ _ _ _ (T132.setTop (mkF m 188 #[vI x0, vJ x1, .second, vJ x3, .second, vI x5, vJ x6, .second, vI M, vJ mb, .second, vJ bd, .second, vI n1, vI n2, vI n3, vI nn, vJ pq, .second, vR b9, vR b30, vR b58, vR b93, .unset, .unset, .unset, .unset, .unset] [(.ref b132)]))
       refine o_dup X132 hx hby at_188 ?_
       refine o_ic X132 hx hby 0 at_189 ?_
       refine o_ic X132 hx hby 0 at_190 ?_
       obtain ⟨cl148, Ar148, q148, Sz148, Nz148, Hs148, Gs148⟩ := id (V132)
       have hin148 := inb_of (j := (0 : Int32)) Sz148 ⟨by decide, by decide⟩
       obtain ⟨T148, h148, X148, e148, W148, st148⟩ := stI X132 hx hZ e132 Ar148 (j := (0 : Int32)) hin148 (g := (mkF m 191 #[vI x0, vJ x1, .second, vJ x3, .second, vI x5, vJ x6, .second, vI M, vJ mb, .second, vJ bd, .second, vI n1, vI n2, vI n3, vI nn, vJ pq, .second, vR b9, vR b30, vR b58, vR b93, .unset, .unset, .unset, .unset, .unset] [(.int 0), (.int 0), (.ref b132), (.ref b132)])) rfl rfl (hb hby at_191)
       refine oS st148 ?_
       have N148 := Fr.snoc X148 N125 ge141
       have V148 : Arv Z h148 b132 k132 .int (4 : Int32) [(.int 0), (.int 0), (.int 0), (.int 0)] (.int 0) := Arv.set Ar148 q148 Sz148 Nz148 Hs148 Gs148 rfl W148 0 rfl (Nat.le_of_ble_eq_true rfl)
       have f149 := f142.wr W148 ge141
       have f150 := f143.other W148 ne134 ne135
       have f151 := f144.other W148 ne136 ne137
       have f152 := f145.other W148 ne138 ne139
       have f153 := f146.other W148 ne140
       have z154 := Nat.le_trans z147 (Keep.of_wr W148).1
       show oG _ _ _ _ (T148.setTop (mkF m 192 #[vI x0, vJ x1, .second, vJ x3, .second, vI x5, vJ x6, .second, vI M, vJ mb, .second, vJ bd, .second, vI n1, vI n2, vI n3, vI nn, vJ pq, .second, vR b9, vR b30, vR b58, vR b93, .unset, .unset, .unset, .unset, .unset] [(.ref b132)]))
       refine o_dup X148 hx hby at_192 ?_
       refine o_ic X148 hx hby 1 at_193 ?_
       refine o_iw X148 hx hby at_194 ?_
       obtain ⟨cl155, Ar155, q155, Sz155, Nz155, Hs155, Gs155⟩ := id (V148)
       have hin155 := inb_of (j := (1 : Int32)) Sz155 ⟨by decide, by decide⟩
       obtain ⟨T155, h155, X155, e155, W155, st155⟩ := stI X148 hx hZ e148 Ar155 (j := (1 : Int32)) hin155 (g := (mkF m 196 #[vI x0, vJ x1, .second, vJ x3, .second, vI x5, vJ x6, .second, vI M, vJ mb, .second, vJ bd, .second, vI n1, vI n2, vI n3, vI nn, vJ pq, .second, vR b9, vR b30, vR b58, vR b93, .unset, .unset, .unset, .unset, .unset] [(.int n1), (.int 1), (.ref b132), (.ref b132)])) rfl rfl (hb hby at_196)
       refine oS st155 ?_
       have N155 := Fr.snoc X155 N148 ge141
       have V155 : Arv Z h155 b132 k132 .int (4 : Int32) [(.int 0), (.int n1), (.int 0), (.int 0)] (.int 0) := Arv.set Ar155 q155 Sz155 Nz155 Hs155 Gs155 rfl W155 1 rfl (Nat.le_of_ble_eq_true rfl)
       have f156 := f149.wr W155 ge141
       have f157 := f150.other W155 ne134 ne135
       have f158 := f151.other W155 ne136 ne137
       have f159 := f152.other W155 ne138 ne139
       have f160 := f153.other W155 ne140
       have z161 := Nat.le_trans z154 (Keep.of_wr W155).1
       show oG _ _ _ _ (T155.setTop (mkF m 197 #[vI x0, vJ x1, .second, vJ x3, .second, vI x5, vJ x6, .second, vI M, vJ mb, .second, vJ bd, .second, vI n1, vI n2, vI n3, vI nn, vJ pq, .second, vR b9, vR b30, vR b58, vR b93, .unset, .unset, .unset, .unset, .unset] [(.ref b132)]))
       refine o_dup X155 hx hby at_197 ?_
       refine o_ic X155 hx hby 2 at_198 ?_
       refine o_iw X155 hx hby at_199 ?_
       obtain ⟨cl162, Ar162, q162, Sz162, Nz162, Hs162, Gs162⟩ := id (V155)
       have hin162 := inb_of (j := (2 : Int32)) Sz162 ⟨by decide, by decide⟩
       obtain ⟨T162, h162, X162, e162, W162, st162⟩ := stI X155 hx hZ e155 Ar162 (j := (2 : Int32)) hin162 (g := (mkF m 201 #[vI x0, vJ x1, .second, vJ x3, .second, vI x5, vJ x6, .second, vI M, vJ mb, .second, vJ bd, .second, vI n1, vI n2, vI n3, vI nn, vJ pq, .second, vR b9, vR b30, vR b58, vR b93, .unset, .unset, .unset, .unset, .unset] [(.int n2), (.int 2), (.ref b132), (.ref b132)])) rfl rfl (hb hby at_201)
       refine oS st162 ?_
       have N162 := Fr.snoc X162 N155 ge141
       have V162 : Arv Z h162 b132 k132 .int (4 : Int32) [(.int 0), (.int n1), (.int n2), (.int 0)] (.int 0) := Arv.set Ar162 q162 Sz162 Nz162 Hs162 Gs162 rfl W162 2 rfl (Nat.le_of_ble_eq_true rfl)
       have f163 := f156.wr W162 ge141
       have f164 := f157.other W162 ne134 ne135
       have f165 := f158.other W162 ne136 ne137
       have f166 := f159.other W162 ne138 ne139
       have f167 := f160.other W162 ne140
       have z168 := Nat.le_trans z161 (Keep.of_wr W162).1
       show oG _ _ _ _ (T162.setTop (mkF m 202 #[vI x0, vJ x1, .second, vJ x3, .second, vI x5, vJ x6, .second, vI M, vJ mb, .second, vJ bd, .second, vI n1, vI n2, vI n3, vI nn, vJ pq, .second, vR b9, vR b30, vR b58, vR b93, .unset, .unset, .unset, .unset, .unset] [(.ref b132)]))
       refine o_dup X162 hx hby at_202 ?_
       refine o_ic X162 hx hby 3 at_203 ?_
       refine o_iw X162 hx hby at_204 ?_
       obtain ⟨cl169, Ar169, q169, Sz169, Nz169, Hs169, Gs169⟩ := id (V162)
       have hin169 := inb_of (j := (3 : Int32)) Sz169 ⟨by decide, by decide⟩
       obtain ⟨T169, h169, X169, e169, W169, st169⟩ := stI X162 hx hZ e162 Ar169 (j := (3 : Int32)) hin169 (g := (mkF m 206 #[vI x0, vJ x1, .second, vJ x3, .second, vI x5, vJ x6, .second, vI M, vJ mb, .second, vJ bd, .second, vI n1, vI n2, vI n3, vI nn, vJ pq, .second, vR b9, vR b30, vR b58, vR b93, .unset, .unset, .unset, .unset, .unset] [(.int n3), (.int 3), (.ref b132), (.ref b132)])) rfl rfl (hb hby at_206)
       refine oS st169 ?_
       have N169 := Fr.snoc X169 N162 ge141
       have V169 : Arv Z h169 b132 k132 .int (4 : Int32) [(.int 0), (.int n1), (.int n2), (.int n3)] (.int 0) := Arv.set Ar169 q169 Sz169 Nz169 Hs169 Gs169 rfl W169 3 rfl (Nat.le_of_ble_eq_true rfl)
       have f170 := f163.wr W169 ge141
       have f171 := f164.other W169 ne134 ne135
       have f172 := f165.other W169 ne136 ne137
       have f173 := f166.other W169 ne138 ne139
       have f174 := f167.other W169 ne140
       have z175 := Nat.le_trans z168 (Keep.of_wr W169).1
       show oG _ _ _ _ (T169.setTop (mkF m 207 #[vI x0, vJ x1, .second, vJ x3, .second, vI x5, vJ x6, .second, vI M, vJ mb, .second, vJ bd, .second, vI n1, vI n2, vI n3, vI nn, vJ pq, .second, vR b9, vR b30, vR b58, vR b93, .unset, .unset, .unset, .unset, .unset] [(.ref b132)]))
       refine o_asw X169 hx hby at_207 #[vI x0, vJ x1, .second, vJ x3, .second, vI x5, vJ x6, .second, vI M, vJ mb, .second, vJ bd, .second, vI n1, vI n2, vI n3, vI nn, vJ pq, .second, vR b9, vR b30, vR b58, vR b93, vR b132, .unset, .unset, .unset, .unset] ?_
       show oG _ _ _ _ (T169.setTop (mkF m 209 #[vI x0, vJ x1, .second, vJ x3, .second, vI x5, vJ x6, .second, vI M, vJ mb, .second, vJ bd, .second, vI n1, vI n2, vI n3, vI nn, vJ pq, .second, vR b9, vR b30, vR b58, vR b93, vR b132, .unset, .unset, .unset, .unset] []))
       obtain ⟨T176, h176, X176, e176, E176, A176, D176, U176, st176⟩ := newO X169 hx hZ hown (own_w hw 26 rfl) (own_w hw 27 rfl) (own_w hw 28 rfl) e169 (g := (mkF m 209 #[vI x0, vJ x1, .second, vJ x3, .second, vI x5, vJ x6, .second, vI M, vJ mb, .second, vJ bd, .second, vI n1, vI n2, vI n3, vI nn, vJ pq, .second, vR b9, vR b30, vR b58, vR b93, vR b132, .unset, .unset, .unset, .unset] [])) rfl (hb hby at_209) (by decide) (by decide)
       obtain ⟨b176, g176⟩ : ∃ z, z = h169.size := ⟨_, rfl⟩
       rw [← g176] at A176 D176 U176 st176
       refine oS st176 ?_
       have ne177 : aD ≠ b176 := Nat.ne_of_lt (Nat.lt_of_lt_of_le (P2.ext f170.2).lt (Nat.le_of_eq g176.symm))
       have ne178 : b9 ≠ b176 := Nat.ne_of_lt (Nat.lt_of_lt_of_le (f171.1).lt (Nat.le_of_eq g176.symm))
       have ne179 : b14 ≠ b176 := Nat.ne_of_lt (Nat.lt_of_lt_of_le (f171.2.2.2).lt (Nat.le_of_eq g176.symm))
       have ne180 : b30 ≠ b176 := Nat.ne_of_lt (Nat.lt_of_lt_of_le (f172.1).lt (Nat.le_of_eq g176.symm))
       have ne181 : b38 ≠ b176 := Nat.ne_of_lt (Nat.lt_of_lt_of_le (f172.2.2.2).lt (Nat.le_of_eq g176.symm))
       have ne182 : b58 ≠ b176 := Nat.ne_of_lt (Nat.lt_of_lt_of_le (f173.1).lt (Nat.le_of_eq g176.symm))
       have ne183 : b69 ≠ b176 := Nat.ne_of_lt (Nat.lt_of_lt_of_le (f173.2.2.2).lt (Nat.le_of_eq g176.symm))
       have ne184 : b93 ≠ b176 := Nat.ne_of_lt (Nat.lt_of_lt_of_le f174.lt (Nat.le_of_eq g176.symm))
       have ne185 : b132 ≠ b176 := Nat.ne_of_lt (Nat.lt_of_lt_of_le V169.lt (Nat.le_of_eq g176.symm))
       have ge186 : n0 ≤ b176 := Nat.le_trans z175 (Nat.le_of_eq g176.symm)
       have f187 := f170.ext E176
       have f188 := f171.ext E176
       have f189 := f172.ext E176
       have f190 := f173.ext E176
       have f191 := f174.ext E176
       have f192 := V169.ext E176
       have z193 := Nat.le_trans z175 E176.1
       have F176_ring : oF16 Z h176 b176 .null := D176 (Or.inl (own_w hw 78 rfl)) (ty := (.array (.object "com/example/lockstep/lockstep/session/Event"))) ft_8
       have F176_maxEvents : oF13 Z h176 b176 (.int 0) := D176 (Or.inr (own_w hw 80 rfl)) (ty := .int) ft_1
       have F176_maxBytes : oF14 Z h176 b176 (.long 0) := D176 (Or.inr (own_w hw 82 rfl)) (ty := .long) ft_2
       have F176_total : oF15 Z h176 b176 .null := D176 (Or.inr (own_w hw 106 rfl)) (ty := (.object "com/example/lockstep/lockstep/session/FrameRoom$Share")) ft_9
       have F176_lastSeq : oF20 Z h176 b176 (.long 0) := D176 (Or.inl (own_w hw 113 rfl)) (ty := .long) ft_2
       have F176_size : oF18 Z h176 b176 (.int 0) := D176 (Or.inl (own_w hw 115 rfl)) (ty := .int) ft_1
       have F176_head : oF17 Z h176 b176 (.int 0) := D176 (Or.inl (own_w hw 247 rfl)) (ty := .int) ft_1
       have F176_bytes : oF19 Z h176 b176 (.long 0) := D176 (Or.inl (own_w hw 249 rfl)) (ty := .long) ft_2
       show oG _ _ _ _ (T176.setTop (mkF m 212 #[vI x0, vJ x1, .second, vJ x3, .second, vI x5, vJ x6, .second, vI M, vJ mb, .second, vJ bd, .second, vI n1, vI n2, vI n3, vI nn, vJ pq, .second, vR b9, vR b30, vR b58, vR b93, vR b132, .unset, .unset, .unset, .unset] [(.ref b176)]))
       refine o_dup X176 hx hby at_212 ?_
       refine o_iw X176 hx hby at_213 ?_
       refine o_lw X176 hx hby at_215 ?_
       show oG _ _ _ _ (T176.setTop (mkF m 217 #[vI x0, vJ x1, .second, vJ x3, .second, vI x5, vJ x6, .second, vI M, vJ mb, .second, vJ bd, .second, vI n1, vI n2, vI n3, vI nn, vJ pq, .second, vR b9, vR b30, vR b58, vR b93, vR b132, .unset, .unset, .unset, .unset] [(.long mb), (.int M), (.ref b176), (.ref b176)]))
       obtain ⟨T194, h194, X194, e194, E194, A194, D194, U194, st194⟩ := newO X176 hx hZ hown (own_w hw 29 rfl) (own_w hw 30 rfl) (own_w hw 31 rfl) e176 (g := (mkF m 217 #[vI x0, vJ x1, .second, vJ x3, .second, vI x5, vJ x6, .second, vI M, vJ mb, .second, vJ bd, .second, vI n1, vI n2, vI n3, vI nn, vJ pq, .second, vR b9, vR b30, vR b58, vR b93, vR b132, .unset, .unset, .unset, .unset] [(.long mb), (.int M), (.ref b176), (.ref b176)])) rfl (hb hby at_217) (by decide) (by decide)
       obtain ⟨b194, g194⟩ : ∃ z, z = h176.size := ⟨_, rfl⟩
       rw [← g194] at A194 D194 U194 st194
       refine oS st194 ?_
       have ne195 : aD ≠ b194 := Nat.ne_of_lt (Nat.lt_of_lt_of_le (P2.ext f187.2).lt (Nat.le_of_eq g194.symm))
       have ne196 : b9 ≠ b194 := Nat.ne_of_lt (Nat.lt_of_lt_of_le (f188.1).lt (Nat.le_of_eq g194.symm))
       have ne197 : b14 ≠ b194 := Nat.ne_of_lt (Nat.lt_of_lt_of_le (f188.2.2.2).lt (Nat.le_of_eq g194.symm))
       have ne198 : b30 ≠ b194 := Nat.ne_of_lt (Nat.lt_of_lt_of_le (f189.1).lt (Nat.le_of_eq g194.symm))
       have ne199 : b38 ≠ b194 := Nat.ne_of_lt (Nat.lt_of_lt_of_le (f189.2.2.2).lt (Nat.le_of_eq g194.symm))
       have ne200 : b58 ≠ b194 := Nat.ne_of_lt (Nat.lt_of_lt_of_le (f190.1).lt (Nat.le_of_eq g194.symm))
       have ne201 : b69 ≠ b194 := Nat.ne_of_lt (Nat.lt_of_lt_of_le (f190.2.2.2).lt (Nat.le_of_eq g194.symm))
       have ne202 : b93 ≠ b194 := Nat.ne_of_lt (Nat.lt_of_lt_of_le f191.lt (Nat.le_of_eq g194.symm))
       have ne203 : b132 ≠ b194 := Nat.ne_of_lt (Nat.lt_of_lt_of_le f192.lt (Nat.le_of_eq g194.symm))
       have ne204 : b176 ≠ b194 := Nat.ne_of_lt (Nat.lt_of_lt_of_le A176.lt (Nat.le_of_eq g194.symm))
       have ge205 : n0 ≤ b194 := Nat.le_trans z193 (Nat.le_of_eq g194.symm)
       have f206 := f187.ext E194
       have f207 := f188.ext E194
       have f208 := f189.ext E194
       have f209 := f190.ext E194
       have f210 := f191.ext E194
       have f211 := f192.ext E194
       have f212 := A176.ext E194
       have f213 := F176_ring.ext E194
       have f214 := F176_maxEvents.ext E194
       have f215 := F176_maxBytes.ext E194
       have f216 := F176_total.ext E194
       have f217 := F176_lastSeq.ext E194
       have f218 := F176_size.ext E194
       have f219 := F176_head.ext E194
       have f220 := F176_bytes.ext E194
       have z221 := Nat.le_trans z193 E194.1
       have F194_holders : oF3 Z h194 b194 .null := D194 (Or.inr (own_w hw 67 rfl)) (ty := (.object "java/util/List")) ft_4
       have F194_bound : oF2 Z h194 b194 (.long 0) := D194 (Or.inr (own_w hw 69 rfl)) (ty := .long) ft_2
       have F194_order : oF22 Z h194 b194 .null := D194 (Or.inr (own_w hw 71 rfl)) (ty := (.object "com/example/lockstep/lockstep/session/FrameRoom$Order")) ft_6
       have F194_held : oF4 Z h194 b194 (.long 0) := D194 (Or.inl (own_w hw 151 rfl)) (ty := .long) ft_2
       have F194_moves : oF5 Z h194 b194 (.long 0) := D194 (Or.inl (own_w hw 154 rfl)) (ty := .long) ft_2
       show oG _ _ _ _ (T194.setTop (mkF m 220 #[vI x0, vJ x1, .second, vJ x3, .second, vI x5, vJ x6, .second, vI M, vJ mb, .second, vJ bd, .second, vI n1, vI n2, vI n3, vI nn, vJ pq, .second, vR b9, vR b30, vR b58, vR b93, vR b132, .unset, .unset, .unset, .unset] [(.ref b194), (.long mb), (.int M), (.ref b176), (.ref b176)]))
       refine o_dup X194 hx hby at_220 ?_
       refine o_lw X194 hx hby at_221 ?_
       refine o_cK X194 hx hZ hown hw hml hby (rm52 l Z a0 hw [] b194 bd aD aO h194 n0 z221 A194 f206 P1 F194_holders F194_bound F194_order F194_held F194_moves ge205 P3) rfl e194 32 33 34 31 6 at_223 [(.long bd)] [(.ref b194), (.long mb), (.int M), (.ref b176), (.ref b176)] pd_23 hy_7 fun v222 T222 L222 hQ222 X222 => ?_
       obtain ⟨aL223, rfl, Nq222, Kq222, p222_0, p222_1, p222_2, p222_3, p222_4, p222_5, p222_6, p222_7, p222_8⟩ := hQ222
       have N222 := Fr.app N169 Nq222
       have ne224 : aD ≠ aL223 := Nat.ne_of_lt (Nat.lt_of_lt_of_le (P2.ext f206.2).lt p222_0)
       have ne225 : b9 ≠ aL223 := Nat.ne_of_lt (Nat.lt_of_lt_of_le (f207.1).lt p222_0)
       have ne226 : b14 ≠ aL223 := Nat.ne_of_lt (Nat.lt_of_lt_of_le (f207.2.2.2).lt p222_0)
       have ne227 : b30 ≠ aL223 := Nat.ne_of_lt (Nat.lt_of_lt_of_le (f208.1).lt p222_0)
       have ne228 : b38 ≠ aL223 := Nat.ne_of_lt (Nat.lt_of_lt_of_le (f208.2.2.2).lt p222_0)
       have ne229 : b58 ≠ aL223 := Nat.ne_of_lt (Nat.lt_of_lt_of_le (f209.1).lt p222_0)
       have ne230 : b69 ≠ aL223 := Nat.ne_of_lt (Nat.lt_of_lt_of_le (f209.2.2.2).lt p222_0)
       have ne231 : b93 ≠ aL223 := Nat.ne_of_lt (Nat.lt_of_lt_of_le f210.lt p222_0)
       have ne232 : b132 ≠ aL223 := Nat.ne_of_lt (Nat.lt_of_lt_of_le f211.lt p222_0)
       have ne233 : b176 ≠ aL223 := Nat.ne_of_lt (Nat.lt_of_lt_of_le f212.lt p222_0)
       have ne234 : b194 ≠ aL223 := Nat.ne_of_lt (Nat.lt_of_lt_of_le A194.lt p222_0)
       have ge235 : n0 ≤ aL223 := Nat.le_trans z221 p222_0
       have f236 := f206.keep Kq222 (allS ge205 all0)
       have f237 := f207.keep Kq222 (ninS ne196 nin0) (ninS ne197 nin0)
       have f238 := f208.keep Kq222 (ninS ne198 nin0) (ninS ne199 nin0)
       have f239 := f209.keep Kq222 (ninS ne200 nin0) (ninS ne201 nin0)
       have f240 := f210.keep Kq222 (ninS ne202 nin0)
       have f241 := f211.keep Kq222 (ninS ne203 nin0)
       have f242 := f212.keep Kq222
       have f243 := f213.keep Kq222 (ninS ne204 nin0)
       have f244 := f214.keep Kq222 (ninS ne204 nin0)
       have f245 := f215.keep Kq222 (ninS ne204 nin0)
       have f246 := f216.keep Kq222 (ninS ne204 nin0)
       have f247 := f217.keep Kq222 (ninS ne204 nin0)
       have f248 := f218.keep Kq222 (ninS ne204 nin0)
       have f249 := f219.keep Kq222 (ninS ne204 nin0)
       have f250 := f220.keep Kq222 (ninS ne204 nin0)
       have f251 := A194.keep Kq222
       have z252 := Nat.le_trans z221 Kq222.1
       refine oN ?_
       obtain ⟨vr253, _, ⟨T253, L253, k253, n253⟩, -, X253, ⟨Lc253, hQ253, l253, y253, z253⟩, st253⟩ := X222.specialBack hx (y := own_y17) rfl hown (mvT hZ (own_w hw 72 rfl)) (mvT hZ (own_w hw 73 rfl)) (mvT hZ (own_w hw 74 rfl)) (by decide) (own_backH (W := 1) (rm55 l Z a0 hw [] b176 M mb b194 aL223 aD bd T222.heap n0 z252 f242 f244 f245 f246 f243 f249 f248 f250 f247 f251 p222_2 p222_3 p222_4 p222_5 p222_1 p222_6 p222_7 p222_8 ge186) hZ hH (own_w hw 74 rfl) (own_w hw 28 rfl) (by decide) (by decide)) (g := (mkF m 226 #[vI x0, vJ x1, .second, vJ x3, .second, vI x5, vJ x6, .second, vI M, vJ mb, .second, vJ bd, .second, vI n1, vI n2, vI n3, vI nn, vJ pq, .second, vR b9, vR b30, vR b58, vR b93, vR b132, .unset, .unset, .unset, .unset] [(.ref b194), (.long mb), (.int M), (.ref b176), (.ref b176)])) rfl (by rw [hml]; rfl) (Steps.refl _) (a := b176) (argsL := [(.int M), (.long mb), (.ref b194)]) (rest := [(.ref b176)]) (lenOf pd_33 rfl) rfl own_2z (hb hby at_226) (fun _ _ => ⟨rfl, rfl, (by decide : 11 + 3 ≤ _), (by decide : 54 + 6 ≤ _)⟩)
       dsimp only [Pt.U, Pt.locs, Pt.cells, Pt.slots] at X253 l253 y253 z253 st253 hQ253
       subst l253 y253 z253
       obtain ⟨aG254, aS255, rfl, Nq253, Kq253, p253_0, p253_1, p253_2, p253_3, p253_4⟩ := hQ253
       have N253 := Fr.app N222 Nq253
       have ne256 : aD ≠ aG254 := Nat.ne_of_lt (Nat.lt_of_lt_of_le (P2.ext f236.2).lt p253_0)
       have ne257 : b9 ≠ aG254 := Nat.ne_of_lt (Nat.lt_of_lt_of_le (f237.1).lt p253_0)
       have ne258 : b14 ≠ aG254 := Nat.ne_of_lt (Nat.lt_of_lt_of_le (f237.2.2.2).lt p253_0)
       have ne259 : b30 ≠ aG254 := Nat.ne_of_lt (Nat.lt_of_lt_of_le (f238.1).lt p253_0)
       have ne260 : b38 ≠ aG254 := Nat.ne_of_lt (Nat.lt_of_lt_of_le (f238.2.2.2).lt p253_0)
       have ne261 : b58 ≠ aG254 := Nat.ne_of_lt (Nat.lt_of_lt_of_le (f239.1).lt p253_0)
       have ne262 : b69 ≠ aG254 := Nat.ne_of_lt (Nat.lt_of_lt_of_le (f239.2.2.2).lt p253_0)
       have ne263 : b93 ≠ aG254 := Nat.ne_of_lt (Nat.lt_of_lt_of_le f240.lt p253_0)
       have ne264 : b132 ≠ aG254 := Nat.ne_of_lt (Nat.lt_of_lt_of_le f241.lt p253_0)
       have ne265 : b176 ≠ aG254 := Nat.ne_of_lt (Nat.lt_of_lt_of_le f242.lt p253_0)
       have ne266 : b194 ≠ aG254 := Nat.ne_of_lt (Nat.lt_of_lt_of_le f251.lt p253_0)
       have ne267 : aL223 ≠ aG254 := Nat.ne_of_lt (Nat.lt_of_lt_of_le p222_1.lt p253_0)
       have ge268 : n0 ≤ aG254 := Nat.le_trans z252 p253_0
       have ne269 : aD ≠ aS255 := Nat.ne_of_lt (Nat.lt_of_lt_of_le (P2.ext f236.2).lt p253_1)
       have ne270 : b9 ≠ aS255 := Nat.ne_of_lt (Nat.lt_of_lt_of_le (f237.1).lt p253_1)
       have ne271 : b14 ≠ aS255 := Nat.ne_of_lt (Nat.lt_of_lt_of_le (f237.2.2.2).lt p253_1)
       have ne272 : b30 ≠ aS255 := Nat.ne_of_lt (Nat.lt_of_lt_of_le (f238.1).lt p253_1)
       have ne273 : b38 ≠ aS255 := Nat.ne_of_lt (Nat.lt_of_lt_of_le (f238.2.2.2).lt p253_1)
       have ne274 : b58 ≠ aS255 := Nat.ne_of_lt (Nat.lt_of_lt_of_le (f239.1).lt p253_1)
       have ne275 : b69 ≠ aS255 := Nat.ne_of_lt (Nat.lt_of_lt_of_le (f239.2.2.2).lt p253_1)
       have ne276 : b93 ≠ aS255 := Nat.ne_of_lt (Nat.lt_of_lt_of_le f240.lt p253_1)
       have ne277 : b132 ≠ aS255 := Nat.ne_of_lt (Nat.lt_of_lt_of_le f241.lt p253_1)
       have ne278 : b176 ≠ aS255 := Nat.ne_of_lt (Nat.lt_of_lt_of_le f242.lt p253_1)
       have ne279 : b194 ≠ aS255 := Nat.ne_of_lt (Nat.lt_of_lt_of_le f251.lt p253_1)
       have ne280 : aL223 ≠ aS255 := Nat.ne_of_lt (Nat.lt_of_lt_of_le p222_1.lt p253_1)
       have ge281 : n0 ≤ aS255 := Nat.le_trans z252 p253_1
       have f282 := f236.keep Kq253 (allS ge186 all0)
       have f283 := f237.keep Kq253 (ninS ne178 nin0) (ninS ne179 nin0)
       have f284 := f238.keep Kq253 (ninS ne180 nin0) (ninS ne181 nin0)
       have f285 := f239.keep Kq253 (ninS ne182 nin0) (ninS ne183 nin0)
       have f286 := f240.keep Kq253 (ninS ne184 nin0)
       have f287 := f241.keep Kq253 (ninS ne185 nin0)
       have f288 := f242.keep Kq253
       have f289 := f251.keep Kq253
       have f290 := p222_1.keep Kq253
       have f291 := p222_2.keep Kq253 (ninS (Ne.symm ne204) nin0)
       have f292 := p222_3.keep Kq253 (ninS (Ne.symm ne204) nin0)
       have f293 := p222_4.keep Kq253 (ninS (Ne.symm ne204) nin0)
       have f294 := p222_5.keep Kq253 (ninS (Ne.symm ne204) nin0)
       have f295 := p222_6.keep Kq253 (ninS (Ne.symm ne233) nin0)
       have f296 := p222_7.keep Kq253 (ninS (Ne.symm ne233) nin0)
       have f297 := p222_8.keep Kq253 (ninS (Ne.symm ne233) nin0)
       have z298 := Nat.le_trans z252 Kq253.1
       refine oS (fun _ κ => st253.trans κ) ?_
       show oG _ _ _ _ (T253.setTop (mkF m 229 #[vI x0, vJ x1, .second, vJ x3, .second, vI x5, vJ x6, .second, vI M, vJ mb, .second, vJ bd, .second, vI n1, vI n2, vI n3, vI nn, vJ pq, .second, vR b9, vR b30, vR b58, vR b93, vR b132, .unset, .unset, .unset, .unset] [(.ref b176)]))
       refine o_asw X253 hx hby at_229 (TL x0 x1 x3 x5 x6 M mb bd n1 n2 n3 nn pq b9 b30 b58 b93 b132 b176 .unset .unset .unset) ?_
       have : (0 : Int64).toInt = 0 := (by decide)
       exact sg121 l Z a0 hw x0 x1 x3 x5 x6 M mb bd n1 n2 n3 nn pq b9 b30 b58 b93 b132 b176 b14 b38 b69 aS255 aG254 (0 : Int64) own_nulls b194 aL223 (0 : Int64) aD kD fv k132 T253.heap n0 z298 p253_2 p253_3 f283 f284 f285 p253_4 f282 P1 P2 ge186 ge268 ge205 ge281 ge235 f286 a131_0 a131_1 a131_2 f287 ne263 ne185 ne264 ne203 ne277 ne232 hg1r hg4r hg5r hg6r hg7r pr2 (show (0 : Int64).toInt = 0 from by omega) (show (0 : Int64).toInt = 0 from by omega) hx hby hml hZ hown (X253.more (by decide) (by decide)) rfl N253 κe
     · intro J8
       refine o_il X3 hx hby at_87 ?_
       refine o_bp X3 hx hby 8 at_88 ?_
       refine o_iand X3 hx hby at_90 ?_
       by_cases hc299 : (x0 &&& (8 : Int32)) = (0 : Int32)
       · refine o_iy X3 hx hby at_91 99 ((if0 _ _).trans (teq hc299).1) ?_
         refine o_lw X3 hx hby at_99 ?_
         refine oS (fun _ κ => X3.ldc2Long hx hown (mvT hZ (own_w hw 4 rfl)) (g := (mkF m 101 #[vI x0, vJ x1, .second, vJ x3, .second, vI x5, vJ x6, .second, vI M, vJ mb, .second, vJ bd, .second, vI n1, vI n2, vI n3, vI nn, .unset, .unset, .unset, .unset, .unset, .unset, .unset, .unset, .unset, .unset, .unset] [(.long x6)])) rfl (hb hby at_101) _ κ) ?_
         show oG _ _ _ _ (T3.setTop (mkF m 104 #[vI x0, vJ x1, .second, vJ x3, .second, vI x5, vJ x6, .second, vI M, vJ mb, .second, vJ bd, .second, vI n1, vI n2, vI n3, vI nn, .unset, .unset, .unset, .unset, .unset, .unset, .unset, .unset, .unset, .unset, .unset] [(.long 7), (.long x6)]))
         refine o_land X3 hx hby at_104 ?_
         refine oS (fun _ κ => X3.ldc2Long hx hown (mvT hZ (own_w hw 5 rfl)) (g := (mkF m 105 #[vI x0, vJ x1, .second, vJ x3, .second, vI x5, vJ x6, .second, vI M, vJ mb, .second, vJ bd, .second, vI n1, vI n2, vI n3, vI nn, .unset, .unset, .unset, .unset, .unset, .unset, .unset, .unset, .unset, .unset, .unset] [(.long (x6 &&& (7 : Int64)))])) rfl (hb hby at_105) _ κ) ?_
         show oG _ _ _ _ (T3.setTop (mkF m 108 #[vI x0, vJ x1, .second, vJ x3, .second, vI x5, vJ x6, .second, vI M, vJ mb, .second, vJ bd, .second, vI n1, vI n2, vI n3, vI nn, .unset, .unset, .unset, .unset, .unset, .unset, .unset, .unset, .unset, .unset, .unset] [(.long 2), (.long (x6 &&& (7 : Int64)))]))
         refine o_lsub X3 hx hby at_108 ?_
         exact J8 _ _ X3 e3 trivial
       · refine o_in X3 hx hby at_91 ((if0 _ _).trans (feq hc299).1) ?_
         refine o_lw X3 hx hby at_94 ?_
         refine o_gt X3 hx hby at_96 109 ?_
         exact J8 _ _ X3 e3 trivial
   · intro J3
     refine o_ll X2 hx hby at_31 ?_
     refine oS (fun _ κ => X2.ldc2Long hx hown (mvT hZ (own_w hw 2 rfl)) (g := (mkF m 32 #[vI x0, vJ x1, .second, vJ x3, .second, vI x5, vJ x6, .second, vI M, vJ mb, .second, .unset, .unset, .unset, .unset, .unset, .unset, .unset, .unset, .unset, .unset, .unset, .unset, .unset, .unset, .unset, .unset, .unset] [(.long x3)])) rfl (hb hby at_32) _ κ) ?_
     show oG _ _ _ _ (T2.setTop (mkF m 35 #[vI x0, vJ x1, .second, vJ x3, .second, vI x5, vJ x6, .second, vI M, vJ mb, .second, .unset, .unset, .unset, .unset, .unset, .unset, .unset, .unset, .unset, .unset, .unset, .unset, .unset, .unset, .unset, .unset, .unset] [(.long 1024), (.long x3)]))
     refine o_land X2 hx hby at_35 ?_
     refine o_lc X2 hx hby 0 at_36 ?_
     refine o_lcmp X2 hx hby at_37 ?_
     by_cases hc300 : (x3 &&& (1024 : Int64)) = (0 : Int64)
     · refine o_iy X2 hx hby at_38 45 ((if0 _ _).trans (teq ((lw_eq _ _).mpr hc300)).1) ?_
       refine o_ll X2 hx hby at_45 ?_
       refine oS (fun _ κ => X2.ldc2Long hx hown (mvT hZ (own_w hw 3 rfl)) (g := (mkF m 46 #[vI x0, vJ x1, .second, vJ x3, .second, vI x5, vJ x6, .second, vI M, vJ mb, .second, .unset, .unset, .unset, .unset, .unset, .unset, .unset, .unset, .unset, .unset, .unset, .unset, .unset, .unset, .unset, .unset, .unset] [(.long x3)])) rfl (hb hby at_46) _ κ) ?_
       show oG _ _ _ _ (T2.setTop (mkF m 49 #[vI x0, vJ x1, .second, vJ x3, .second, vI x5, vJ x6, .second, vI M, vJ mb, .second, .unset, .unset, .unset, .unset, .unset, .unset, .unset, .unset, .unset, .unset, .unset, .unset, .unset, .unset, .unset, .unset, .unset] [(.long 1023), (.long x3)]))
       refine o_land X2 hx hby at_49 ?_
       exact J3 _ _ X2 e2 trivial
     · refine o_in X2 hx hby at_38 ((if0 _ _).trans (feq (fun q => absurd ((lw_eq _ _).mp q) hc300)).1) ?_
       refine o_ll X2 hx hby at_41 ?_
       refine o_gt X2 hx hby at_42 50 ?_
       exact J3 _ _ X2 e2 trivial
 · intro J2
   refine o_ll X0 hx hby at_6 ?_
   refine oS (fun _ κ => X0.ldc2Long hx hown (mvT hZ (own_w hw 0 rfl)) (g := (mkF m 7 #[vI x0, vJ x1, .second, vJ x3, .second, vI x5, vJ x6, .second, vI M, .unset, .unset, .unset, .unset, .unset, .unset, .unset, .unset, .unset, .unset, .unset, .unset, .unset, .unset, .unset, .unset, .unset, .unset, .unset] [(.long x1)])) rfl (hb hby at_7) _ κ) ?_
   show oG _ _ _ _ (s₁.setTop (mkF m 10 #[vI x0, vJ x1, .second, vJ x3, .second, vI x5, vJ x6, .second, vI M, .unset, .unset, .unset, .unset, .unset, .unset, .unset, .unset, .unset, .unset, .unset, .unset, .unset, .unset, .unset, .unset, .unset, .unset, .unset] [(.long 32), (.long x1)]))
   refine o_land X0 hx hby at_10 ?_
   refine o_lc X0 hx hby 0 at_11 ?_
   refine o_lcmp X0 hx hby at_12 ?_
   by_cases hc301 : (x1 &&& (32 : Int64)) = (0 : Int64)
   · refine o_iy X0 hx hby at_13 24 ((if0 _ _).trans (teq ((lw_eq _ _).mpr hc301)).1) ?_
     refine o_ll X0 hx hby at_24 ?_
     refine oS (fun _ κ => X0.ldc2Long hx hown (mvT hZ (own_w hw 1 rfl)) (g := (mkF m 25 #[vI x0, vJ x1, .second, vJ x3, .second, vI x5, vJ x6, .second, vI M, .unset, .unset, .unset, .unset, .unset, .unset, .unset, .unset, .unset, .unset, .unset, .unset, .unset, .unset, .unset, .unset, .unset, .unset, .unset] [(.long x1)])) rfl (hb hby at_25) _ κ) ?_
     show oG _ _ _ _ (s₁.setTop (mkF m 28 #[vI x0, vJ x1, .second, vJ x3, .second, vI x5, vJ x6, .second, vI M, .unset, .unset, .unset, .unset, .unset, .unset, .unset, .unset, .unset, .unset, .unset, .unset, .unset, .unset, .unset, .unset, .unset, .unset, .unset] [(.long 31), (.long x1)]))
     refine o_land X0 hx hby at_28 ?_
     exact J2 _ _ X0 e0 (own_land _ (31 : Int64) (by decide))
   · refine o_in X0 hx hby at_13 ((if0 _ _).trans (feq (fun q => absurd ((lw_eq _ _).mp q) hc301)).1) ?_
     refine o_ll X0 hx hby at_16 ?_
     refine oS (fun _ κ => X0.ldc2Long hx hown (mvT hZ (own_w hw 120 rfl)) (g := (mkF m 17 #[vI x0, vJ x1, .second, vJ x3, .second, vI x5, vJ x6, .second, vI M, .unset, .unset, .unset, .unset, .unset, .unset, .unset, .unset, .unset, .unset, .unset, .unset, .unset, .unset, .unset, .unset, .unset, .unset, .unset] [(.long x1)])) rfl (hb hby at_17) _ κ) ?_
     show oG _ _ _ _ (s₁.setTop (mkF m 20 #[vI x0, vJ x1, .second, vJ x3, .second, vI x5, vJ x6, .second, vI M, .unset, .unset, .unset, .unset, .unset, .unset, .unset, .unset, .unset, .unset, .unset, .unset, .unset, .unset, .unset, .unset, .unset, .unset, .unset] [(.long 9223372036854775807), (.long x1)]))
     refine o_land X0 hx hby at_20 ?_
     refine o_gt X0 hx hby at_21 29 ?_
     exact J2 _ _ X0 e0 (own_land _ (9223372036854775807 : Int64) (by decide))
end OwnSeg
set_option maxRecDepth 65536 in
set_option maxHeartbeats 40000000 in
theorem comes_1 {Post : Tables → Env → Array Value → State → Outcome → State → Prop} (hpost : ∀ tb e args s v u, (limb_1_1.after args s (.returned v) u = true ∧ limb_1_2.after args s (.returned v) u = true ∧ True) → ReturnedEndW s (.returned v) u (Jvm.fieldLocs frame_1_writes args s ++ Jvm.arrayLocs frame_1_arrays args s ++ Jvm.staticLocs frame_1_statics s) 40 256 → Post tb e args s (.returned v) u) :
   ArmFor flags0 classFile x code maxLocals ret World_1 tables_1 room_1 Calls_1 rest_1 Pre_1 Post := by
 intro l hfl _ _ p e ha hc hk s m args below hf hA hF happ hP
 obtain ⟨hcalls, hrest, hpre⟩ := hP
 obtain ⟨-, -, -, hnamed, -, -, -, hat⟩ := (Spec.applies_iff hf).mp happ
 obtain ⟨hg, hn⟩ := and_e (Cond.before_iff.mp (show (Jvm.Cond.and given_1 narrow_1).before args s = true from hpre))
 obtain ⟨g0, gr0⟩ := and_e hg
 obtain ⟨w0, w1, w2, w3, w4, rfl⟩ : ∃ w0 w1 w2 w3 w4 : Value, args = #[w0, w1, w2, w3, w4] := by
   have hs : args.size = 5 := by simpa [Cond.value, given_1] using g0
   obtain ⟨L⟩ := args
   match L, hs with
   | [w0, w1, w2, w3, w4], _ => exact ⟨w0, w1, w2, w3, w4, rfl⟩
 have hw := fun d (hd : d ∈ tables_1) => atoms_spec (ws := Jvm.Cond.code x code maxLocals ret :: tables_1) hat d (List.mem_cons_of_mem _ hd)
 have hfit : Fit s := fun {y c} hc i hi => by
   obtain ⟨ha, rfl⟩ := Array.getElem?_eq_some_iff.mp hc
   have q := List.all_eq_true.mp ((Array.all_eq_true_iff_forall_mem.mp hF) _ (Array.getElem_mem ha)) i (List.mem_range.mpr hi)
   simpa [Array.getElem?_eq_getElem hi] using q
 obtain ⟨ga0, gr1⟩ := and_e gr0
 obtain ⟨i0, ei0⟩ := is_v ga0
 obtain rfl : w0 = (.int i0) := Option.some.inj ei0
 obtain ⟨ga1, gr2⟩ := and_e gr1
 obtain ⟨i1, ei1⟩ := isL_v ga1
 obtain rfl : w1 = (.long i1) := Option.some.inj ei1
 obtain ⟨ga2, gr3⟩ := and_e gr2
 obtain ⟨i2, ei2⟩ := isL_v ga2
 obtain rfl : w2 = (.long i2) := Option.some.inj ei2
 obtain ⟨ga3, gr4⟩ := and_e gr3
 obtain ⟨i3, ei3⟩ := is_v ga3
 obtain rfl : w3 = (.int i3) := Option.some.inj ei3
 obtain ⟨i4, ei4⟩ := isL_v gr4
 obtain rfl : w4 = (.long i4) := Option.some.inj ei4
 obtain ⟨hsets, hown0⟩ := atoms_of _ (rest_1_c_eq ▸ (show rest_1_c.before _ s = true from hrest))
 have ha6 := Cond.before_iff.mp (hsets _ (List.mem_of_getElem? (i := 6) rfl))
 obtain ⟨aD, eD⟩ := arr_v ha6
 have S_D : Sta s s.heap "java/util/ArrayList" "DEFAULTCAPACITY_EMPTY_ELEMENTDATA" "[Ljava/lang/Object;" (.ref aD) := Sta.start eD (Or.inr ⟨(own_w hw 44 rfl), (hsets _ (List.mem_of_getElem? (i := 2) rfl))⟩)
 obtain ⟨cl, Acl⟩ := Arr.start eD ha6
 have hlen := eqv_i (Term.int_eval 0) (Cond.before_iff.mp (hsets _ (List.mem_of_getElem? (i := 8) rfl)))
 have hq := own_len eD (Acl.fin (Vm.Alike.refl _)) hlen
 have A_D : Arv s s.heap aD cl.cls (.object "java/lang/Object") (0 : Int32) [] .null := Arv.start hfit Acl hq.1 hq.2 (by decide) rfl trivial
 obtain ⟨aO, -, S_O, -⟩ := own_sta hn (own_w hw 36 rfl) (own_w hw 37 rfl)

 obtain ⟨n, o, h1, h2, h3, _, L, rfl, ⟨rfl, N⟩, hq⟩ := rm0 l s _ hw tables_1 i0 i1 i2 i3 i4 aD cl.cls aO s.heap s.heap.size (Nat.le_refl _) (Old.start s) S_D A_D S_O p e ha hc hk s m _ below hf ((Spec.applies_iff_loose hf).mp happ).1 ⟨rfl, State.Warmed39.refl s, rfl, State.WarmedH.refl s⟩ trivial
 replace hq := wide hq
 refine ⟨n, _, h1, h2, h3, hpost _ _ _ _ _ _ ⟨Cond.after_iff.mpr rfl, Cond.after_iff.mpr (eq_i res_at (Term.int_eval (1)) rfl), trivial⟩ ⟨hq.1, hq.2.1, hq.2.2.1, (hq.2.2.2.sift fun y hy => Or.inr (N y hy)).mono (by decide) (by decide)⟩⟩
theorem main_1_1 : Claimed_1_1 := comes_1 fun _ _ _ _ _ _ h hF => ⟨h.1, hF⟩
theorem main_1_2 : Claimed_1_2 := comes_1 fun _ _ _ _ _ _ h hF => ⟨h.2.1, hF⟩
end Jvm.Pilot.@@N@@
namespace Jvm.Pilot.@@N@@
open Jvm Jvm.ClassFile Sem Op Lib Jvm.Free Jvm.Stand Jvm.Pilot.@@N@@.Jvm.D
/-! MADE BY PROGRAM (witnessworld.py) out of the Statement's table words and the real class files: 32 classes; the members and pool entries that the words name. The judged class is class 1, her method 1. -/
namespace start1
abbrev yw0 : MethodName := ⟨"java/lang/Object", "<init>", "()V"⟩
open Jvm.ClassFile
def u (s : String) : CpInfo := .utf8 (stringToUtf16 s)
/-- a pool by its gaps: so many unusable entries, then the entry; so many at the end -/
def gap : Nat → List CpInfo → List CpInfo
  | 0, r => r
  | n + 1, r => .unusable :: gap n r
def poolList (es : List (Nat × CpInfo)) (last : Nat) : List CpInfo := es.foldr (fun e r => gap e.1 (e.2 :: r)) (gap last [])
def pool (es : List (Nat × CpInfo)) (last : Nat) : Array CpInfo := ⟨poolList es last⟩
def fileOf (pool : Array CpInfo) (this : Nat) (attrs : Array Attribute := #[]) (ms : Array MethodInfo := #[]) (fl : Nat := 33) (sup : Nat := 0) (ifs : Array Nat := #[]) (fds : Array FieldInfo := #[]) : ClassFile where
  minorVersion := 0
  majorVersion := 65
  constantPool := pool
  accessFlags := fl
  thisClass := this
  superClass := sup
  interfaces := ifs
  fields := fds
  methods := ms
  attributes := attrs
def plain (name : String) (sup : Option ClassId) : Class where
  name := name
  kind := .ordinary
  loader := none
  accessFlags := 33
  super := sup
  interfaces := #[]
  cf := none
  fields := #[]
  methods := #[]
  instanceTypes := #[]
  staticTypes := #[]
  resolved := #[]
  callSites := []
  init := .initialized
  statics := none
  mirror := none

def pool0 : Array CpInfo := pool [(5, u "<init>"), (0, u "()V"), (1, .class_ 10), (1, u "java/lang/Object")] 113

def k0c0 : Code := { maxStack := 0, maxLocals := 1, code := object_method_1_code, exceptionTable := #[], attributes := #[] }
def k0m0 : Method := { name := "<init>", desc := "()V", sig := { parameters := [], returnType := none }, accessFlags := 1, code := some k0c0 }
/-- java/lang/Object -/
def k0 : Class := { plain "java/lang/Object" none with
  accessFlags := 33
  interfaces := #[]
  cf := some (fileOf pool0 8 #[] #[{ accessFlags := 1, nameIndex := 5, descriptorIndex := 6, attributes := #[] }] 33 0 #[] #[])
  fields := #[]
  methods := #[k0m0]
  instanceTypes := #[]
  staticTypes := #[]
  resolved := Array.replicate 124 none
  statics := none }

def pool1 : Array CpInfo := pool [(2, .class_ 4), (1, u "java/lang/Object"), (0, u "<init>"), (0, u "()V"), (0, .long 32), (3, .long 9223372036854775807), (1, .long 31), (1, .long 1024), (1, .long 1023), (1, .long 7), (1, .long 2), (1, .class_ 24), (0, u "com/example/lockstep/lockstep/session/Event"), (0, .methodref 23 26), (0, .nameAndType 5 27), (0, u "(JJ[B)V"), (0, .long 3), (1, .class_ 31), (0, u "com/example/lockstep/lockstep/session/History"), (0, .class_ 33), (0, u "com/example/lockstep/lockstep/session/FrameRoom"), (0, .methodref 32 35), (0, .nameAndType 5 36), (0, u "(J)V"), (0, .methodref 30 38), (0, .nameAndType 5 39), (0, u "(IJLcom/example/lockstep/lockstep/session/FrameRoom;)V"), (0, .methodref 30 41), (0, .nameAndType 42 43), (0, u "add"), (0, u "(Lcom/example/lockstep/lockstep/session/Event;)V"), (0, .methodref 30 45), (0, .nameAndType 46 47), (0, u "get"), (0, u "(J)Lcom/example/lockstep/lockstep/session/Event;"), (0, .methodref 49 50), (0, .class_ 51), (0, .nameAndType 52 53), (0, u "com/example/lockstep/lockstep/session/HistoryGetPinLaw"), (0, u "kept"), (0, u "(I[IIJJ)I"), (0, .long 128), (1, .methodref 49 57), (0, .nameAndType 58 59), (0, u "fits"), (0, u "(IJIJJ)Z"), (2, u "law"), (0, u "(IJJIJ)Z")] 7

def k1m0 : Method := { name := "<init>", desc := "()V", sig := { parameters := [], returnType := none }, accessFlags := 1, code := none }
def k1c1 : Code := { maxStack := 9, maxLocals := 28, code := code, exceptionTable := #[], attributes := #[] }
def k1m1 : Method := { name := "law", desc := "(IJJIJ)Z", sig := { parameters := [.int, .long, .long, .int, .long], returnType := some .boolean }, accessFlags := 9, code := some k1c1 }
def k1c2 : Code := { maxStack := 6, maxLocals := 8, code := method_3_code, exceptionTable := #[], attributes := #[] }
def k1m2 : Method := { name := "fits", desc := "(IJIJJ)Z", sig := { parameters := [.int, .long, .int, .long, .long], returnType := some .boolean }, accessFlags := 10, code := some k1c2 }
def k1c3 : Code := { maxStack := 8, maxLocals := 8, code := method_4_code, exceptionTable := #[], attributes := #[] }
def k1m3 : Method := { name := "kept", desc := "(I[IIJJ)I", sig := { parameters := [.int, (.array .int), .int, .long, .long], returnType := some .int }, accessFlags := 10, code := some k1c3 }
/-- com/example/lockstep/lockstep/session/HistoryGetPinLaw -/
def k1 : Class := { plain "com/example/lockstep/lockstep/session/HistoryGetPinLaw" (some 0) with
  accessFlags := 49
  interfaces := #[]
  cf := some (fileOf pool1 49 #[] #[{ accessFlags := 1, nameIndex := 5, descriptorIndex := 6, attributes := #[] }, { accessFlags := 9, nameIndex := 62, descriptorIndex := 63, attributes := #[] }, { accessFlags := 10, nameIndex := 58, descriptorIndex := 59, attributes := #[] }, { accessFlags := 10, nameIndex := 52, descriptorIndex := 53, attributes := #[] }] 49 2 #[] #[])
  fields := #[]
  methods := #[k1m0, k1m1, k1m2, k1m3]
  instanceTypes := #[]
  staticTypes := #[]
  resolved := Array.replicate 71 none
  statics := none }

def pool2 : Array CpInfo := pool [(1, .methodref 2 3), (0, .class_ 4), (0, .nameAndType 5 6), (0, u "java/lang/Object"), (0, u "<init>"), (0, u "()V"), (0, .fieldref 8 9), (0, .class_ 10), (0, .nameAndType 11 12), (0, u "com/example/lockstep/lockstep/session/Event"), (0, u "seq"), (0, u "J"), (0, .fieldref 8 14), (0, .nameAndType 15 12), (0, u "timeMs"), (0, .fieldref 8 17), (0, .nameAndType 18 19), (0, u "body"), (0, u "[B"), (0, u "(JJ[B)V"), (2, u "()J"), (0, u "()[B")] 2

def k2c0 : Code := { maxStack := 3, maxLocals := 6, code := prog_41_method_1_code, exceptionTable := #[], attributes := #[] }
def k2m0 : Method := { name := "<init>", desc := "(JJ[B)V", sig := { parameters := [.long, .long, (.array .byte)], returnType := none }, accessFlags := 0, code := some k2c0 }
def k2c1 : Code := { maxStack := 2, maxLocals := 1, code := prog_41_method_2_code, exceptionTable := #[], attributes := #[] }
def k2m1 : Method := { name := "seq", desc := "()J", sig := { parameters := [], returnType := some .long }, accessFlags := 0, code := some k2c1 }
def k2c2 : Code := { maxStack := 1, maxLocals := 1, code := prog_41_method_4_code, exceptionTable := #[], attributes := #[] }
def k2m2 : Method := { name := "body", desc := "()[B", sig := { parameters := [], returnType := some (.array .byte) }, accessFlags := 0, code := some k2c2 }
/-- com/example/lockstep/lockstep/session/Event -/
def k2 : Class := { plain "com/example/lockstep/lockstep/session/Event" (some 0) with
  accessFlags := 32
  interfaces := #[]
  cf := some (fileOf pool2 8 #[] #[{ accessFlags := 0, nameIndex := 5, descriptorIndex := 20, attributes := #[] }, { accessFlags := 0, nameIndex := 11, descriptorIndex := 23, attributes := #[] }, { accessFlags := 0, nameIndex := 18, descriptorIndex := 24, attributes := #[] }] 32 2 #[] #[{ accessFlags := 18, nameIndex := 11, descriptorIndex := 12, attributes := #[] }, { accessFlags := 18, nameIndex := 15, descriptorIndex := 12, attributes := #[] }, { accessFlags := 18, nameIndex := 18, descriptorIndex := 19, attributes := #[] }])
  fields := #[{ name := "seq", type := .long, accessFlags := 18, slot := 0, constantValue := 0 }, { name := "timeMs", type := .long, accessFlags := 18, slot := 1, constantValue := 0 }, { name := "body", type := (.array .byte), accessFlags := 18, slot := 2, constantValue := 0 }]
  methods := #[k2m0, k2m1, k2m2]
  instanceTypes := #[.long, .long, (.array .byte)]
  staticTypes := #[]
  resolved := Array.replicate 27 none
  statics := none }

def pool3 : Array CpInfo := pool [(1, .methodref 2 3), (0, .class_ 4), (0, .nameAndType 5 6), (0, u "java/lang/Object"), (0, u "<init>"), (0, u "()V"), (0, .class_ 8), (0, u "com/example/lockstep/lockstep/session/Event"), (0, .fieldref 10 11), (0, .class_ 12), (0, .nameAndType 13 14), (0, u "com/example/lockstep/lockstep/session/History"), (0, u "ring"), (0, u "[Lcom/example/lockstep/lockstep/session/Event;"), (0, .fieldref 10 16), (0, .nameAndType 17 18), (0, u "maxEvents"), (0, u "I"), (0, .fieldref 10 20), (0, .nameAndType 21 22), (0, u "maxBytes"), (0, u "J"), (0, .invokeDynamic 0 24), (0, .nameAndType 25 26), (0, u "run"), (0, u "(Lcom/example/lockstep/lockstep/session/History;)Ljava/lang/Runnable;"), (0, .methodref 28 29), (0, .class_ 30), (0, .nameAndType 31 32), (0, u "com/example/lockstep/lockstep/session/FrameRoom"), (0, u "share"), (0, u "(Ljava/lang/Runnable;)Lcom/example/lockstep/lockstep/session/FrameRoom$Share;"), (0, .fieldref 10 34), (0, .nameAndType 35 36), (0, u "total"), (0, u "Lcom/example/lockstep/lockstep/session/FrameRoom$Share;"), (0, .methodref 7 38), (0, .nameAndType 39 40), (0, u "body"), (0, u "()[B"), (0, .fieldref 10 42), (0, .nameAndType 43 18), (0, u "size"), (0, .fieldref 10 45), (0, .nameAndType 46 22), (0, u "bytes"), (0, .methodref 10 48), (0, .nameAndType 49 6), (0, u "dropOldest"), (0, .methodref 10 51), (0, .nameAndType 52 53), (0, u "counted"), (0, u "(I)J"), (0, .methodref 55 56), (0, .class_ 57), (0, .nameAndType 58 59), (0, u "com/example/lockstep/lockstep/session/FrameRoom$Share"), (0, u "takeOnTop"), (0, u "(J)Z"), (0, .long 16), (1, .long 2), (1, .methodref 65 66), (0, .class_ 67), (0, .nameAndType 68 69), (0, u "java/lang/Math"), (0, u "max"), (0, u "(JJ)J"), (0, .methodref 65 71), (0, .nameAndType 72 69), (0, u "min"), (0, .methodref 10 74), (0, .nameAndType 75 76), (0, u "resize"), (0, u "(I)V"), (0, .fieldref 10 78), (0, .nameAndType 79 18), (0, u "head"), (0, .methodref 7 81), (0, .nameAndType 82 83), (0, u "seq"), (0, u "()J"), (0, .fieldref 10 85), (0, .nameAndType 86 22), (0, u "lastSeq"), (0, .methodref 55 88), (0, .nameAndType 89 90), (0, u "give"), (0, u "(J)V"), (0, .long 128), (1, u "EVENT_ALLOWANCE"), (2, u "FIRST_CAPACITY"), (1, u "(IJLcom/example/lockstep/lockstep/session/FrameRoom;)V"), (2, u "add"), (0, u "(Lcom/example/lockstep/lockstep/session/Event;)V"), (1, u "get"), (0, u "(J)Lcom/example/lockstep/lockstep/session/Event;"), (6, .methodType 6), (0, .methodHandle 5 47), (0, .methodHandle 6 115), (0, .methodref 116 117), (0, .class_ 118), (0, .nameAndType 119 120), (0, u "java/lang/invoke/LambdaMetafactory"), (0, u "metafactory"), (0, u "(Ljava/lang/invoke/MethodHandles$Lookup;Ljava/lang/String;Ljava/lang/invoke/MethodType;Ljava/lang/invoke/MethodType;Ljava/lang/invoke/MethodHandle;Ljava/lang/invoke/MethodType;)Ljava/lang/invoke/CallSite;")] 7

def k3c0 : Code := { maxStack := 3, maxLocals := 5, code := prog_49_method_1_code, exceptionTable := #[], attributes := #[] }
def k3m0 : Method := { name := "<init>", desc := "(IJLcom/example/lockstep/lockstep/session/FrameRoom;)V", sig := { parameters := [.int, .long, (.object "com/example/lockstep/lockstep/session/FrameRoom")], returnType := none }, accessFlags := 0, code := some k3c0 }
def k3c1 : Code := { maxStack := 9, maxLocals := 4, code := prog_49_method_2_code, exceptionTable := #[], attributes := #[] }
def k3m1 : Method := { name := "add", desc := "(Lcom/example/lockstep/lockstep/session/Event;)V", sig := { parameters := [(.object "com/example/lockstep/lockstep/session/Event")], returnType := none }, accessFlags := 0, code := some k3c1 }
def k3c2 : Code := { maxStack := 6, maxLocals := 5, code := prog_49_method_3_code, exceptionTable := #[], attributes := #[] }
def k3m2 : Method := { name := "get", desc := "(J)Lcom/example/lockstep/lockstep/session/Event;", sig := { parameters := [.long], returnType := some (.object "com/example/lockstep/lockstep/session/Event") }, accessFlags := 0, code := some k3c2 }
def k3c3 : Code := { maxStack := 5, maxLocals := 2, code := prog_49_method_6_code, exceptionTable := #[], attributes := #[] }
def k3m3 : Method := { name := "dropOldest", desc := "()V", sig := { parameters := [], returnType := none }, accessFlags := 2, code := some k3c3 }
def k3c4 : Code := { maxStack := 5, maxLocals := 4, code := prog_49_method_7_code, exceptionTable := #[], attributes := #[] }
def k3m4 : Method := { name := "resize", desc := "(I)V", sig := { parameters := [.int], returnType := none }, accessFlags := 2, code := some k3c4 }
def k3c5 : Code := { maxStack := 4, maxLocals := 1, code := prog_49_method_8_code, exceptionTable := #[], attributes := #[] }
def k3m5 : Method := { name := "counted", desc := "(I)J", sig := { parameters := [.int], returnType := some .long }, accessFlags := 10, code := some k3c5 }
/-- com/example/lockstep/lockstep/session/History -/
def k3 : Class := { plain "com/example/lockstep/lockstep/session/History" (some 0) with
  accessFlags := 32
  interfaces := #[]
  cf := some (fileOf pool3 10 #[.bootstrapMethods #[⟨114, #[112, 113, 112]⟩]] #[{ accessFlags := 0, nameIndex := 5, descriptorIndex := 98, attributes := #[] }, { accessFlags := 0, nameIndex := 101, descriptorIndex := 102, attributes := #[] }, { accessFlags := 0, nameIndex := 104, descriptorIndex := 105, attributes := #[] }, { accessFlags := 2, nameIndex := 49, descriptorIndex := 6, attributes := #[] }, { accessFlags := 2, nameIndex := 75, descriptorIndex := 76, attributes := #[] }, { accessFlags := 10, nameIndex := 52, descriptorIndex := 53, attributes := #[] }] 32 2 #[] #[{ accessFlags := 24, nameIndex := 93, descriptorIndex := 18, attributes := #[] }, { accessFlags := 26, nameIndex := 96, descriptorIndex := 18, attributes := #[] }, { accessFlags := 18, nameIndex := 17, descriptorIndex := 18, attributes := #[] }, { accessFlags := 18, nameIndex := 21, descriptorIndex := 22, attributes := #[] }, { accessFlags := 18, nameIndex := 35, descriptorIndex := 36, attributes := #[] }, { accessFlags := 2, nameIndex := 13, descriptorIndex := 14, attributes := #[] }, { accessFlags := 2, nameIndex := 79, descriptorIndex := 18, attributes := #[] }, { accessFlags := 2, nameIndex := 43, descriptorIndex := 18, attributes := #[] }, { accessFlags := 2, nameIndex := 46, descriptorIndex := 22, attributes := #[] }, { accessFlags := 2, nameIndex := 86, descriptorIndex := 22, attributes := #[] }])
  fields := #[{ name := "EVENT_ALLOWANCE", type := .int, accessFlags := 24, slot := 0, constantValue := 0 }, { name := "FIRST_CAPACITY", type := .int, accessFlags := 26, slot := 1, constantValue := 0 }, { name := "maxEvents", type := .int, accessFlags := 18, slot := 0, constantValue := 0 }, { name := "maxBytes", type := .long, accessFlags := 18, slot := 1, constantValue := 0 }, { name := "total", type := (.object "com/example/lockstep/lockstep/session/FrameRoom$Share"), accessFlags := 18, slot := 2, constantValue := 0 }, { name := "ring", type := (.array (.object "com/example/lockstep/lockstep/session/Event")), accessFlags := 2, slot := 3, constantValue := 0 }, { name := "head", type := .int, accessFlags := 2, slot := 4, constantValue := 0 }, { name := "size", type := .int, accessFlags := 2, slot := 5, constantValue := 0 }, { name := "bytes", type := .long, accessFlags := 2, slot := 6, constantValue := 0 }, { name := "lastSeq", type := .long, accessFlags := 2, slot := 7, constantValue := 0 }]
  methods := #[k3m0, k3m1, k3m2, k3m3, k3m4, k3m5]
  instanceTypes := #[.int, .long, (.object "com/example/lockstep/lockstep/session/FrameRoom$Share"), (.array (.object "com/example/lockstep/lockstep/session/Event")), .int, .int, .long, .long]
  staticTypes := #[.int, .int]
  resolved := Array.replicate 128 none
  callSites := [(0, 26, .makes 31)]
  statics := none }

def pool4 : Array CpInfo := pool [(1, .fieldref 2 3), (0, .class_ 4), (0, .nameAndType 5 6), (0, u "com/example/lockstep/lockstep/session/FrameRoom$Order"), (0, u "LARGEST"), (0, u "Lcom/example/lockstep/lockstep/session/FrameRoom$Order;"), (0, .methodref 8 9), (0, .class_ 10), (0, .nameAndType 11 12), (0, u "com/example/lockstep/lockstep/session/FrameRoom"), (0, u "<init>"), (0, u "(JLcom/example/lockstep/lockstep/session/FrameRoom$Order;)V"), (0, .methodref 14 15), (0, .class_ 16), (0, .nameAndType 11 17), (0, u "java/lang/Object"), (0, u "()V"), (0, .class_ 19), (0, u "java/util/ArrayList"), (0, .methodref 18 15), (0, .fieldref 8 22), (0, .nameAndType 23 24), (0, u "holders"), (0, u "Ljava/util/List;"), (0, .fieldref 8 26), (0, .nameAndType 27 28), (0, u "bound"), (0, u "J"), (0, .fieldref 8 30), (0, .nameAndType 31 6), (0, u "order"), (0, .fieldref 8 33), (0, .nameAndType 34 28), (0, u "held"), (0, .class_ 36), (0, u "com/example/lockstep/lockstep/session/FrameRoom$Share"), (0, .methodref 35 38), (0, .nameAndType 11 39), (0, u "(Lcom/example/lockstep/lockstep/session/FrameRoom;Ljava/lang/Runnable;)V"), (0, .methodref 8 41), (0, .nameAndType 42 43), (0, u "toShed"), (0, u "(Lcom/example/lockstep/lockstep/session/FrameRoom$Share;JJ)Lcom/example/lockstep/lockstep/session/FrameRoom$Share;"), (0, .fieldref 35 45), (0, .nameAndType 46 47), (0, u "shed"), (0, u "Ljava/lang/Runnable;"), (5, .fieldref 35 33), (0, .fieldref 8 55), (0, .nameAndType 56 28), (0, u "moves"), (0, .fieldref 35 58), (0, .nameAndType 59 28), (0, u "moved"), (0, .methodref 8 61), (0, .nameAndType 62 63), (0, u "place"), (0, u "(Lcom/example/lockstep/lockstep/session/FrameRoom$Share;)V"), (0, .methodref 8 65), (0, .nameAndType 66 67), (0, u "firstBesides"), (0, u "(Lcom/example/lockstep/lockstep/session/FrameRoom$Share;)Lcom/example/lockstep/lockstep/session/FrameRoom$Share;"), (3, .interfaceMethodref 72 73), (0, .class_ 74), (0, .nameAndType 75 76), (0, u "java/util/List"), (0, u "isEmpty"), (0, u "()Z"), (0, .interfaceMethodref 72 78), (0, .nameAndType 79 80), (0, u "get"), (0, u "(I)Ljava/lang/Object;"), (0, .interfaceMethodref 72 82), (0, .nameAndType 83 84), (0, u "size"), (0, u "()I"), (4, .fieldref 35 90), (0, .nameAndType 91 92), (0, u "slot"), (0, u "I"), (0, .interfaceMethodref 72 94), (0, .nameAndType 95 96), (0, u "add"), (0, u "(Ljava/lang/Object;)Z"), (0, .methodref 8 98), (0, .nameAndType 99 63), (0, u "siftUp"), (0, .methodref 8 101), (0, .nameAndType 102 63), (0, u "siftDown"), (0, .interfaceMethodref 72 104), (0, .nameAndType 105 80), (0, u "remove"), (0, .methodref 8 107), (0, .nameAndType 108 109), (0, u "put"), (0, u "(Lcom/example/lockstep/lockstep/session/FrameRoom$Share;I)V"), (0, .interfaceMethodref 72 111), (0, .nameAndType 112 113), (0, u "set"), (0, u "(ILjava/lang/Object;)Ljava/lang/Object;"), (2, u "(J)V"), (3, u "share"), (0, u "(Ljava/lang/Runnable;)Lcom/example/lockstep/lockstep/session/FrameRoom$Share;"), (0, u "take"), (0, u "(Lcom/example/lockstep/lockstep/session/FrameRoom$Share;JJ)Z"), (1, u "give"), (0, u "(Lcom/example/lockstep/lockstep/session/FrameRoom$Share;J)V")] 7

def k4c0 : Code := { maxStack := 4, maxLocals := 3, code := prog_42_method_1_code, exceptionTable := #[], attributes := #[] }
def k4m0 : Method := { name := "<init>", desc := "(J)V", sig := { parameters := [.long], returnType := none }, accessFlags := 1, code := some k4c0 }
def k4c1 : Code := { maxStack := 3, maxLocals := 4, code := prog_42_method_2_code, exceptionTable := #[], attributes := #[] }
def k4m1 : Method := { name := "<init>", desc := "(JLcom/example/lockstep/lockstep/session/FrameRoom$Order;)V", sig := { parameters := [.long, (.object "com/example/lockstep/lockstep/session/FrameRoom$Order")], returnType := none }, accessFlags := 1, code := some k4c1 }
def k4c2 : Code := { maxStack := 4, maxLocals := 2, code := prog_42_method_4_code, exceptionTable := #[], attributes := #[] }
def k4m2 : Method := { name := "share", desc := "(Ljava/lang/Runnable;)Lcom/example/lockstep/lockstep/session/FrameRoom$Share;", sig := { parameters := [(.object "java/lang/Runnable")], returnType := some (.object "com/example/lockstep/lockstep/session/FrameRoom$Share") }, accessFlags := 1, code := some k4c2 }
def k4c3 : Code := { maxStack := 6, maxLocals := 8, code := prog_42_method_5_code, exceptionTable := #[], attributes := #[] }
def k4m3 : Method := { name := "take", desc := "(Lcom/example/lockstep/lockstep/session/FrameRoom$Share;JJ)Z", sig := { parameters := [(.object "com/example/lockstep/lockstep/session/FrameRoom$Share"), .long, .long], returnType := some .boolean }, accessFlags := 2, code := some k4c3 }
def k4c4 : Code := { maxStack := 4, maxLocals := 8, code := prog_42_method_6_code, exceptionTable := #[], attributes := #[] }
def k4m4 : Method := { name := "toShed", desc := "(Lcom/example/lockstep/lockstep/session/FrameRoom$Share;JJ)Lcom/example/lockstep/lockstep/session/FrameRoom$Share;", sig := { parameters := [(.object "com/example/lockstep/lockstep/session/FrameRoom$Share"), .long, .long], returnType := some (.object "com/example/lockstep/lockstep/session/FrameRoom$Share") }, accessFlags := 2, code := some k4c4 }
def k4c5 : Code := { maxStack := 5, maxLocals := 4, code := prog_42_method_7_code, exceptionTable := #[], attributes := #[] }
def k4m5 : Method := { name := "give", desc := "(Lcom/example/lockstep/lockstep/session/FrameRoom$Share;J)V", sig := { parameters := [(.object "com/example/lockstep/lockstep/session/FrameRoom$Share"), .long], returnType := none }, accessFlags := 2, code := some k4c5 }
def k4c6 : Code := { maxStack := 3, maxLocals := 5, code := prog_42_method_9_code, exceptionTable := #[], attributes := #[] }
def k4m6 : Method := { name := "firstBesides", desc := "(Lcom/example/lockstep/lockstep/session/FrameRoom$Share;)Lcom/example/lockstep/lockstep/session/FrameRoom$Share;", sig := { parameters := [(.object "com/example/lockstep/lockstep/session/FrameRoom$Share")], returnType := some (.object "com/example/lockstep/lockstep/session/FrameRoom$Share") }, accessFlags := 2, code := some k4c6 }
def k4c7 : Code := { maxStack := 4, maxLocals := 3, code := prog_42_method_10_code, exceptionTable := #[], attributes := #[] }
def k4m7 : Method := { name := "place", desc := "(Lcom/example/lockstep/lockstep/session/FrameRoom$Share;)V", sig := { parameters := [(.object "com/example/lockstep/lockstep/session/FrameRoom$Share")], returnType := none }, accessFlags := 2, code := some k4c7 }
def k4c8 : Code := { maxStack := 4, maxLocals := 4, code := prog_42_method_11_code, exceptionTable := #[], attributes := #[] }
def k4m8 : Method := { name := "siftUp", desc := "(Lcom/example/lockstep/lockstep/session/FrameRoom$Share;)V", sig := { parameters := [(.object "com/example/lockstep/lockstep/session/FrameRoom$Share")], returnType := none }, accessFlags := 2, code := some k4c8 }
def k4c9 : Code := { maxStack := 4, maxLocals := 4, code := prog_42_method_12_code, exceptionTable := #[], attributes := #[] }
def k4m9 : Method := { name := "siftDown", desc := "(Lcom/example/lockstep/lockstep/session/FrameRoom$Share;)V", sig := { parameters := [(.object "com/example/lockstep/lockstep/session/FrameRoom$Share")], returnType := none }, accessFlags := 2, code := some k4c9 }
def k4c10 : Code := { maxStack := 3, maxLocals := 3, code := prog_42_method_13_code, exceptionTable := #[], attributes := #[] }
def k4m10 : Method := { name := "put", desc := "(Lcom/example/lockstep/lockstep/session/FrameRoom$Share;I)V", sig := { parameters := [(.object "com/example/lockstep/lockstep/session/FrameRoom$Share"), .int], returnType := none }, accessFlags := 2, code := some k4c10 }
/-- com/example/lockstep/lockstep/session/FrameRoom -/
def k4 : Class := { plain "com/example/lockstep/lockstep/session/FrameRoom" (some 0) with
  accessFlags := 33
  interfaces := #[]
  cf := some (fileOf pool4 8 #[.nestMembers #[35, 2]] #[{ accessFlags := 1, nameIndex := 11, descriptorIndex := 116, attributes := #[] }, { accessFlags := 1, nameIndex := 11, descriptorIndex := 12, attributes := #[] }, { accessFlags := 1, nameIndex := 120, descriptorIndex := 121, attributes := #[] }, { accessFlags := 2, nameIndex := 122, descriptorIndex := 123, attributes := #[] }, { accessFlags := 2, nameIndex := 42, descriptorIndex := 43, attributes := #[] }, { accessFlags := 2, nameIndex := 125, descriptorIndex := 126, attributes := #[] }, { accessFlags := 2, nameIndex := 66, descriptorIndex := 67, attributes := #[] }, { accessFlags := 2, nameIndex := 62, descriptorIndex := 63, attributes := #[] }, { accessFlags := 2, nameIndex := 99, descriptorIndex := 63, attributes := #[] }, { accessFlags := 2, nameIndex := 102, descriptorIndex := 63, attributes := #[] }, { accessFlags := 2, nameIndex := 108, descriptorIndex := 109, attributes := #[] }] 33 14 #[] #[{ accessFlags := 18, nameIndex := 27, descriptorIndex := 28, attributes := #[] }, { accessFlags := 18, nameIndex := 31, descriptorIndex := 6, attributes := #[] }, { accessFlags := 18, nameIndex := 23, descriptorIndex := 24, attributes := #[] }, { accessFlags := 2, nameIndex := 34, descriptorIndex := 28, attributes := #[] }, { accessFlags := 2, nameIndex := 56, descriptorIndex := 28, attributes := #[] }])
  fields := #[{ name := "bound", type := .long, accessFlags := 18, slot := 0, constantValue := 0 }, { name := "order", type := (.object "com/example/lockstep/lockstep/session/FrameRoom$Order"), accessFlags := 18, slot := 1, constantValue := 0 }, { name := "holders", type := (.object "java/util/List"), accessFlags := 18, slot := 2, constantValue := 0 }, { name := "held", type := .long, accessFlags := 2, slot := 3, constantValue := 0 }, { name := "moves", type := .long, accessFlags := 2, slot := 4, constantValue := 0 }]
  methods := #[k4m0, k4m1, k4m2, k4m3, k4m4, k4m5, k4m6, k4m7, k4m8, k4m9, k4m10]
  instanceTypes := #[.long, (.object "com/example/lockstep/lockstep/session/FrameRoom$Order"), (.object "java/util/List"), .long, .long]
  staticTypes := #[]
  resolved := ((((((Array.replicate 134 none).setIfInBounds 35 (some (.cls 21))).setIfInBounds 37 (some (.method ⟨21, 0⟩))).setIfInBounds 44 (some (.field 21 0))).setIfInBounds 53 (some (.field 21 1))).setIfInBounds 57 (some (.field 21 2))).setIfInBounds 89 (some (.field 21 3))
  statics := none }

def pool5 : Array CpInfo := pool [(1, .class_ 2), (0, u "java/lang/constant/Constable"), (0, .class_ 4), (0, u "java/lang/Object")] 6

/-- java/lang/constant/Constable -/
def k5 : Class := { plain "java/lang/constant/Constable" (some 0) with
  accessFlags := 1537
  interfaces := #[]
  cf := some (fileOf pool5 1 #[] #[] 1537 3 #[] #[])
  fields := #[]
  methods := #[]
  instanceTypes := #[]
  staticTypes := #[]
  resolved := Array.replicate 11 none
  statics := none }

def pool6 : Array CpInfo := pool [(1, .class_ 2), (0, u "java/lang/Comparable"), (0, .class_ 4), (0, u "java/lang/Object")] 7

/-- java/lang/Comparable -/
def k6 : Class := { plain "java/lang/Comparable" (some 0) with
  accessFlags := 1537
  interfaces := #[]
  cf := some (fileOf pool6 1 #[] #[] 1537 3 #[] #[])
  fields := #[]
  methods := #[]
  instanceTypes := #[]
  staticTypes := #[]
  resolved := Array.replicate 12 none
  statics := none }

def pool7 : Array CpInfo := pool [(1, .class_ 2), (0, u "java/io/Serializable"), (0, .class_ 4), (0, u "java/lang/Object")] 2

/-- java/io/Serializable -/
def k7 : Class := { plain "java/io/Serializable" (some 0) with
  accessFlags := 1537
  interfaces := #[]
  cf := some (fileOf pool7 1 #[] #[] 1537 3 #[] #[])
  fields := #[]
  methods := #[]
  instanceTypes := #[]
  staticTypes := #[]
  resolved := Array.replicate 7 none
  statics := none }

def pool8 : Array CpInfo := pool [(2, .class_ 4), (1, u "java/lang/Enum"), (0, u "name"), (0, u "Ljava/lang/String;"), (2, u "ordinal"), (0, u "I"), (1, .class_ 14), (1, u "java/lang/Object"), (4, u "hash"), (86, .class_ 108), (1, u "java/lang/Enum$EnumDesc"), (2, .class_ 112), (0, u "java/lang/constant/Constable"), (0, .class_ 114), (0, u "java/lang/Comparable"), (0, .class_ 116), (0, u "java/io/Serializable")] 87

/-- java/lang/Enum -/
def k8 : Class := { plain "java/lang/Enum" (some 0) with
  accessFlags := 1057
  interfaces := #[5, 6, 7]
  cf := some (fileOf pool8 2 #[.nestMembers #[106]] #[] 1057 12 #[111, 113, 115] #[{ accessFlags := 18, nameIndex := 5, descriptorIndex := 6, attributes := #[] }, { accessFlags := 18, nameIndex := 9, descriptorIndex := 10, attributes := #[] }, { accessFlags := 2, nameIndex := 19, descriptorIndex := 10, attributes := #[] }])
  fields := #[{ name := "name", type := (.object "java/lang/String"), accessFlags := 18, slot := 0, constantValue := 0 }, { name := "ordinal", type := .int, accessFlags := 18, slot := 1, constantValue := 0 }, { name := "hash", type := .int, accessFlags := 2, slot := 2, constantValue := 0 }]
  methods := #[]
  instanceTypes := #[(.object "java/lang/String"), .int, .int]
  staticTypes := #[]
  resolved := Array.replicate 204 none
  statics := none }

def pool9 : Array CpInfo := pool [(1, .class_ 2), (0, u "com/example/lockstep/lockstep/session/FrameRoom$Order"), (2, u "LARGEST"), (0, u "Lcom/example/lockstep/lockstep/session/FrameRoom$Order;"), (2, u "STALEST"), (2, u "$VALUES"), (0, u "[Lcom/example/lockstep/lockstep/session/FrameRoom$Order;"), (6, .class_ 22), (1, u "java/lang/Enum"), (25, .class_ 49), (0, u "com/example/lockstep/lockstep/session/FrameRoom")] 2

/-- com/example/lockstep/lockstep/session/FrameRoom$Order -/
def k9 : Class := { plain "com/example/lockstep/lockstep/session/FrameRoom$Order" (some 8) with
  accessFlags := 16433
  interfaces := #[]
  cf := some (fileOf pool9 1 #[.nestHost 48] #[] 16433 20 #[] #[{ accessFlags := 16409, nameIndex := 5, descriptorIndex := 6, attributes := #[] }, { accessFlags := 16409, nameIndex := 9, descriptorIndex := 6, attributes := #[] }, { accessFlags := 4122, nameIndex := 12, descriptorIndex := 13, attributes := #[] }])
  fields := #[{ name := "LARGEST", type := (.object "com/example/lockstep/lockstep/session/FrameRoom$Order"), accessFlags := 16409, slot := 0, constantValue := 0 }, { name := "STALEST", type := (.object "com/example/lockstep/lockstep/session/FrameRoom$Order"), accessFlags := 16409, slot := 1, constantValue := 0 }, { name := "$VALUES", type := (.array (.object "com/example/lockstep/lockstep/session/FrameRoom$Order")), accessFlags := 4122, slot := 2, constantValue := 0 }]
  methods := #[]
  instanceTypes := #[(.object "java/lang/String"), .int, .int]
  staticTypes := #[(.object "com/example/lockstep/lockstep/session/FrameRoom$Order"), (.object "com/example/lockstep/lockstep/session/FrameRoom$Order"), (.array (.object "com/example/lockstep/lockstep/session/FrameRoom$Order"))]
  resolved := Array.replicate 52 none
  statics := some 0 }

def pool10 : Array CpInfo := pool [(8, .class_ 10), (1, u "java/lang/Iterable"), (24, .class_ 36), (0, u "java/lang/Object")] 25

/-- java/lang/Iterable -/
def k10 : Class := { plain "java/lang/Iterable" (some 0) with
  accessFlags := 1537
  interfaces := #[]
  cf := some (fileOf pool10 8 #[] #[] 1537 35 #[] #[])
  fields := #[]
  methods := #[]
  instanceTypes := #[]
  staticTypes := #[]
  resolved := Array.replicate 62 none
  statics := none }

def pool11 : Array CpInfo := pool [(10, .class_ 12), (1, u "java/util/Collection"), (47, .class_ 61), (0, u "java/lang/Object"), (0, .class_ 63), (0, u "java/lang/Iterable")] 51

/-- java/util/Collection -/
def k11 : Class := { plain "java/util/Collection" (some 0) with
  accessFlags := 1537
  interfaces := #[10]
  cf := some (fileOf pool11 10 #[] #[] 1537 60 #[62] #[])
  fields := #[]
  methods := #[]
  instanceTypes := #[]
  staticTypes := #[]
  resolved := Array.replicate 115 none
  statics := none }

def pool12 : Array CpInfo := pool [(1, .methodref 2 3), (0, .class_ 4), (0, .nameAndType 5 6), (0, u "java/lang/Object"), (0, u "<init>"), (0, u "()V"), (1, .class_ 10), (1, u "java/util/AbstractCollection"), (66, .class_ 78), (0, u "java/util/Collection")] 81

def k12c0 : Code := { maxStack := 1, maxLocals := 1, code := jdk_22_method_1_code, exceptionTable := #[], attributes := #[] }
def k12m0 : Method := { name := "<init>", desc := "()V", sig := { parameters := [], returnType := none }, accessFlags := 4, code := some k12c0 }
/-- java/util/AbstractCollection -/
def k12 : Class := { plain "java/util/AbstractCollection" (some 0) with
  accessFlags := 1057
  interfaces := #[11]
  cf := some (fileOf pool12 8 #[] #[{ accessFlags := 4, nameIndex := 5, descriptorIndex := 6, attributes := #[] }] 1057 2 #[77] #[])
  fields := #[]
  methods := #[k12m0]
  instanceTypes := #[]
  staticTypes := #[]
  resolved := Array.replicate 160 none
  statics := none }

def pool13 : Array CpInfo := pool [(8, .class_ 10), (1, u "java/util/SequencedCollection"), (15, .class_ 27), (0, u "java/lang/Object"), (0, .class_ 29), (0, u "java/util/Collection")] 27

/-- java/util/SequencedCollection -/
def k13 : Class := { plain "java/util/SequencedCollection" (some 0) with
  accessFlags := 1537
  interfaces := #[11]
  cf := some (fileOf pool13 8 #[] #[] 1537 26 #[28] #[])
  fields := #[]
  methods := #[]
  instanceTypes := #[]
  staticTypes := #[]
  resolved := Array.replicate 57 none
  statics := none }

def pool14 : Array CpInfo := pool [(8, .class_ 10), (1, u "java/util/List"), (7, u "()Z"), (11, u "set"), (29, u "add"), (3, u "(Ljava/lang/Object;)Z"), (2, u "isEmpty"), (7, u "get"), (0, u "(I)Ljava/lang/Object;"), (2, u "size"), (0, u "()I"), (2, u "remove"), (19, .class_ 104), (0, u "java/lang/Object"), (15, .class_ 121), (0, u "java/util/SequencedCollection"), (51, u "(ILjava/lang/Object;)Ljava/lang/Object;")] 77

def k14m0 : Method := { name := "size", desc := "()I", sig := { parameters := [], returnType := some .int }, accessFlags := 1025, code := none }
def k14m1 : Method := { name := "isEmpty", desc := "()Z", sig := { parameters := [], returnType := some .boolean }, accessFlags := 1025, code := none }
def k14m2 : Method := { name := "add", desc := "(Ljava/lang/Object;)Z", sig := { parameters := [(.object "java/lang/Object")], returnType := some .boolean }, accessFlags := 1025, code := none }
def k14m3 : Method := { name := "get", desc := "(I)Ljava/lang/Object;", sig := { parameters := [.int], returnType := some (.object "java/lang/Object") }, accessFlags := 1025, code := none }
def k14m4 : Method := { name := "set", desc := "(ILjava/lang/Object;)Ljava/lang/Object;", sig := { parameters := [.int, (.object "java/lang/Object")], returnType := some (.object "java/lang/Object") }, accessFlags := 1025, code := none }
def k14m5 : Method := { name := "remove", desc := "(I)Ljava/lang/Object;", sig := { parameters := [.int], returnType := some (.object "java/lang/Object") }, accessFlags := 1025, code := none }
/-- java/util/List -/
def k14 : Class := { plain "java/util/List" (some 0) with
  accessFlags := 1537
  interfaces := #[13]
  cf := some (fileOf pool14 8 #[] #[{ accessFlags := 1025, nameIndex := 79, descriptorIndex := 80, attributes := #[] }, { accessFlags := 1025, nameIndex := 67, descriptorIndex := 18, attributes := #[] }, { accessFlags := 1025, nameIndex := 60, descriptorIndex := 64, attributes := #[] }, { accessFlags := 1025, nameIndex := 75, descriptorIndex := 76, attributes := #[] }, { accessFlags := 1025, nameIndex := 30, descriptorIndex := 173, attributes := #[] }, { accessFlags := 1025, nameIndex := 83, descriptorIndex := 76, attributes := #[] }] 1537 103 #[120] #[])
  fields := #[]
  methods := #[k14m0, k14m1, k14m2, k14m3, k14m4, k14m5]
  instanceTypes := #[]
  staticTypes := #[]
  resolved := Array.replicate 251 none
  statics := none }

def pool15 : Array CpInfo := pool [(1, .methodref 2 3), (0, .class_ 4), (0, .nameAndType 5 6), (0, u "java/util/AbstractCollection"), (0, u "<init>"), (0, u "()V"), (0, .fieldref 8 9), (0, .class_ 10), (0, .nameAndType 11 12), (0, u "java/util/AbstractList"), (0, u "modCount"), (0, u "I"), (64, .class_ 78), (0, u "java/util/AbstractList$Itr"), (3, .class_ 83), (0, u "java/util/AbstractList$ListItr"), (9, .class_ 94), (0, u "java/util/AbstractList$RandomAccessSubList"), (3, .class_ 99), (0, u "java/util/AbstractList$SubList"), (33, .class_ 134), (0, u "java/util/List"), (73, .class_ 209), (0, u "java/util/AbstractList$SubList$1"), (0, .class_ 211), (0, u "java/util/AbstractList$RandomAccessSpliterator")] 6

def k15c0 : Code := { maxStack := 2, maxLocals := 1, code := jdk_39_method_1_code, exceptionTable := #[], attributes := #[] }
def k15m0 : Method := { name := "<init>", desc := "()V", sig := { parameters := [], returnType := none }, accessFlags := 4, code := some k15c0 }
/-- java/util/AbstractList -/
def k15 : Class := { plain "java/util/AbstractList" (some 12) with
  accessFlags := 1057
  interfaces := #[14]
  cf := some (fileOf pool15 8 #[.nestMembers #[93, 98, 208, 210, 82, 77]] #[{ accessFlags := 4, nameIndex := 5, descriptorIndex := 6, attributes := #[] }] 1057 2 #[133] #[{ accessFlags := 132, nameIndex := 11, descriptorIndex := 12, attributes := #[] }])
  fields := #[{ name := "modCount", type := .int, accessFlags := 132, slot := 0, constantValue := 0 }]
  methods := #[k15m0]
  instanceTypes := #[.int]
  staticTypes := #[]
  resolved := Array.replicate 218 none
  statics := none }

def pool16 : Array CpInfo := pool [(1, .class_ 2), (0, u "java/util/RandomAccess"), (0, .class_ 4), (0, u "java/lang/Object")] 2

/-- java/util/RandomAccess -/
def k16 : Class := { plain "java/util/RandomAccess" (some 0) with
  accessFlags := 1537
  interfaces := #[]
  cf := some (fileOf pool16 1 #[] #[] 1537 3 #[] #[])
  fields := #[]
  methods := #[]
  instanceTypes := #[]
  staticTypes := #[]
  resolved := Array.replicate 7 none
  statics := none }

def pool17 : Array CpInfo := pool [(1, .class_ 2), (0, u "java/lang/Cloneable"), (0, .class_ 4), (0, u "java/lang/Object")] 2

/-- java/lang/Cloneable -/
def k17 : Class := { plain "java/lang/Cloneable" (some 0) with
  accessFlags := 1537
  interfaces := #[]
  cf := some (fileOf pool17 1 #[] #[] 1537 3 #[] #[])
  fields := #[]
  methods := #[]
  instanceTypes := #[]
  staticTypes := #[]
  resolved := Array.replicate 7 none
  statics := none }

def pool18 : Array CpInfo := pool [(1, .methodref 2 3), (0, .class_ 4), (0, .nameAndType 5 6), (0, u "java/util/AbstractList"), (0, u "<init>"), (0, u "()V"), (0, .class_ 8), (0, u "java/lang/Object"), (0, .fieldref 10 11), (0, .class_ 12), (0, .nameAndType 13 14), (0, u "java/util/ArrayList"), (0, u "elementData"), (0, u "[Ljava/lang/Object;"), (2, u "EMPTY_ELEMENTDATA"), (21, .fieldref 10 40), (0, .nameAndType 41 14), (0, u "DEFAULTCAPACITY_EMPTY_ELEMENTDATA"), (5, u "()[Ljava/lang/Object;"), (0, .fieldref 10 49), (0, .nameAndType 50 51), (0, u "size"), (0, u "I"), (11, .fieldref 10 64), (0, .nameAndType 65 51), (0, u "modCount"), (3, .methodref 10 70), (0, .nameAndType 71 72), (0, u "grow"), (0, u "(I)[Ljava/lang/Object;"), (6, .methodref 80 81), (0, .class_ 82), (0, .nameAndType 83 84), (0, u "java/lang/Math"), (0, u "max"), (0, u "(II)I"), (11, u "(Ljava/lang/Object;)Z"), (21, .methodref 119 120), (0, .class_ 121), (0, .nameAndType 122 84), (0, u "java/util/Objects"), (0, u "checkIndex"), (0, .methodref 10 124), (0, .nameAndType 13 125), (0, u "(I)Ljava/lang/Object;"), (3, .methodref 10 130), (0, .nameAndType 71 47), (0, .methodref 10 132), (0, .nameAndType 133 134), (0, u "add"), (0, u "(Ljava/lang/Object;[Ljava/lang/Object;I)V"), (9, .methodref 10 145), (0, .nameAndType 146 147), (0, u "fastRemove"), (0, u "([Ljava/lang/Object;I)V"), (0, .class_ 149), (0, u "java/util/List"), (23, u "()Z"), (12, u "()I"), (75, .class_ 263), (0, u "java/util/ArrayList$ListItr"), (3, .class_ 268), (0, u "java/util/ArrayList$Itr"), (7, .class_ 277), (0, u "java/util/ArrayList$SubList"), (12, .class_ 291), (0, u "java/util/ArrayList$ArrayListSpliterator"), (37, .class_ 330), (0, u "java/util/RandomAccess"), (0, .class_ 332), (0, u "java/lang/Cloneable"), (0, .class_ 334), (0, u "java/io/Serializable"), (0, u "serialVersionUID"), (0, u "J"), (3, u "DEFAULT_CAPACITY"), (22, u "isEmpty"), (17, u "get"), (4, u "set"), (0, u "(ILjava/lang/Object;)Ljava/lang/Object;"), (11, u "remove"), (100, .class_ 501), (0, u "java/util/ArrayList$SubList$2"), (0, .class_ 503), (0, u "java/util/ArrayList$SubList$1")] 5

def k18c0 : Code := { maxStack := 2, maxLocals := 1, code := jdk_38_method_2_code, exceptionTable := #[], attributes := #[] }
def k18m0 : Method := { name := "<init>", desc := "()V", sig := { parameters := [], returnType := none }, accessFlags := 1, code := some k18c0 }
def k18c1 : Code := { maxStack := 4, maxLocals := 4, code := jdk_38_method_6_code, exceptionTable := #[], attributes := #[] }
def k18m1 : Method := { name := "grow", desc := "(I)[Ljava/lang/Object;", sig := { parameters := [.int], returnType := some (.array (.object "java/lang/Object")) }, accessFlags := 2, code := some k18c1 }
def k18c2 : Code := { maxStack := 3, maxLocals := 1, code := jdk_38_method_7_code, exceptionTable := #[], attributes := #[] }
def k18m2 : Method := { name := "grow", desc := "()[Ljava/lang/Object;", sig := { parameters := [], returnType := some (.array (.object "java/lang/Object")) }, accessFlags := 2, code := some k18c2 }
def k18c3 : Code := { maxStack := 1, maxLocals := 1, code := jdk_38_method_8_code, exceptionTable := #[], attributes := #[] }
def k18m3 : Method := { name := "size", desc := "()I", sig := { parameters := [], returnType := some .int }, accessFlags := 1, code := some k18c3 }
def k18c4 : Code := { maxStack := 1, maxLocals := 1, code := jdk_38_method_9_code, exceptionTable := #[], attributes := #[] }
def k18m4 : Method := { name := "isEmpty", desc := "()Z", sig := { parameters := [], returnType := some .boolean }, accessFlags := 1, code := some k18c4 }
def k18c5 : Code := { maxStack := 2, maxLocals := 2, code := jdk_38_method_18_code, exceptionTable := #[], attributes := #[] }
def k18m5 : Method := { name := "elementData", desc := "(I)Ljava/lang/Object;", sig := { parameters := [.int], returnType := some (.object "java/lang/Object") }, accessFlags := 0, code := some k18c5 }
def k18c6 : Code := { maxStack := 2, maxLocals := 2, code := jdk_38_method_20_code, exceptionTable := #[], attributes := #[] }
def k18m6 : Method := { name := "get", desc := "(I)Ljava/lang/Object;", sig := { parameters := [.int], returnType := some (.object "java/lang/Object") }, accessFlags := 1, code := some k18c6 }
def k18c7 : Code := { maxStack := 3, maxLocals := 4, code := jdk_38_method_23_code, exceptionTable := #[], attributes := #[] }
def k18m7 : Method := { name := "set", desc := "(ILjava/lang/Object;)Ljava/lang/Object;", sig := { parameters := [.int, (.object "java/lang/Object")], returnType := some (.object "java/lang/Object") }, accessFlags := 1, code := some k18c7 }
def k18c8 : Code := { maxStack := 3, maxLocals := 4, code := jdk_38_method_24_code, exceptionTable := #[], attributes := #[] }
def k18m8 : Method := { name := "add", desc := "(Ljava/lang/Object;[Ljava/lang/Object;I)V", sig := { parameters := [(.object "java/lang/Object"), (.array (.object "java/lang/Object")), .int], returnType := none }, accessFlags := 2, code := some k18c8 }
def k18c9 : Code := { maxStack := 4, maxLocals := 2, code := jdk_38_method_25_code, exceptionTable := #[], attributes := #[] }
def k18m9 : Method := { name := "add", desc := "(Ljava/lang/Object;)Z", sig := { parameters := [(.object "java/lang/Object")], returnType := some .boolean }, accessFlags := 1, code := some k18c9 }
def k18c10 : Code := { maxStack := 3, maxLocals := 4, code := jdk_38_method_29_code, exceptionTable := #[], attributes := #[] }
def k18m10 : Method := { name := "remove", desc := "(I)Ljava/lang/Object;", sig := { parameters := [.int], returnType := some (.object "java/lang/Object") }, accessFlags := 1, code := some k18c10 }
def k18c11 : Code := { maxStack := 6, maxLocals := 4, code := jdk_38_method_39_code, exceptionTable := #[], attributes := #[] }
def k18m11 : Method := { name := "fastRemove", desc := "([Ljava/lang/Object;I)V", sig := { parameters := [(.array (.object "java/lang/Object")), .int], returnType := none }, accessFlags := 2, code := some k18c11 }
/-- java/util/ArrayList -/
def k18 : Class := { plain "java/util/ArrayList" (some 15) with
  accessFlags := 33
  interfaces := #[14, 16, 17, 7]
  cf := some (fileOf pool18 10 #[.nestMembers #[290, 276, 500, 502, 262, 267]] #[{ accessFlags := 1, nameIndex := 5, descriptorIndex := 6, attributes := #[] }, { accessFlags := 2, nameIndex := 71, descriptorIndex := 72, attributes := #[] }, { accessFlags := 2, nameIndex := 71, descriptorIndex := 47, attributes := #[] }, { accessFlags := 1, nameIndex := 50, descriptorIndex := 186, attributes := #[] }, { accessFlags := 1, nameIndex := 363, descriptorIndex := 173, attributes := #[] }, { accessFlags := 0, nameIndex := 13, descriptorIndex := 125, attributes := #[] }, { accessFlags := 1, nameIndex := 381, descriptorIndex := 125, attributes := #[] }, { accessFlags := 1, nameIndex := 386, descriptorIndex := 387, attributes := #[] }, { accessFlags := 2, nameIndex := 133, descriptorIndex := 134, attributes := #[] }, { accessFlags := 1, nameIndex := 133, descriptorIndex := 96, attributes := #[] }, { accessFlags := 1, nameIndex := 399, descriptorIndex := 125, attributes := #[] }, { accessFlags := 2, nameIndex := 146, descriptorIndex := 147, attributes := #[] }] 33 2 #[148, 329, 331, 333] #[{ accessFlags := 26, nameIndex := 335, descriptorIndex := 336, attributes := #[] }, { accessFlags := 26, nameIndex := 340, descriptorIndex := 51, attributes := #[] }, { accessFlags := 26, nameIndex := 17, descriptorIndex := 14, attributes := #[] }, { accessFlags := 26, nameIndex := 41, descriptorIndex := 14, attributes := #[] }, { accessFlags := 128, nameIndex := 13, descriptorIndex := 14, attributes := #[] }, { accessFlags := 2, nameIndex := 50, descriptorIndex := 51, attributes := #[] }])
  fields := #[{ name := "serialVersionUID", type := .long, accessFlags := 26, slot := 0, constantValue := 0 }, { name := "DEFAULT_CAPACITY", type := .int, accessFlags := 26, slot := 1, constantValue := 0 }, { name := "EMPTY_ELEMENTDATA", type := (.array (.object "java/lang/Object")), accessFlags := 26, slot := 2, constantValue := 0 }, { name := "DEFAULTCAPACITY_EMPTY_ELEMENTDATA", type := (.array (.object "java/lang/Object")), accessFlags := 26, slot := 3, constantValue := 0 }, { name := "elementData", type := (.array (.object "java/lang/Object")), accessFlags := 128, slot := 1, constantValue := 0 }, { name := "size", type := .int, accessFlags := 2, slot := 2, constantValue := 0 }]
  methods := #[k18m0, k18m1, k18m2, k18m3, k18m4, k18m5, k18m6, k18m7, k18m8, k18m9, k18m10, k18m11]
  instanceTypes := #[.int, (.array (.object "java/lang/Object")), .int]
  staticTypes := #[.long, .int, (.array (.object "java/lang/Object")), (.array (.object "java/lang/Object"))]
  resolved := Array.replicate 509 none
  statics := some 1 }

def pool19 : Array CpInfo := pool [(1, .class_ 2), (0, u "java/lang/Runnable"), (0, .class_ 4), (0, u "java/lang/Object"), (0, u "run"), (0, u "()V")] 4

def k19m0 : Method := { name := "run", desc := "()V", sig := { parameters := [], returnType := none }, accessFlags := 1025, code := none }
/-- java/lang/Runnable -/
def k19 : Class := { plain "java/lang/Runnable" (some 0) with
  accessFlags := 1537
  interfaces := #[]
  cf := some (fileOf pool19 1 #[] #[{ accessFlags := 1025, nameIndex := 5, descriptorIndex := 6, attributes := #[] }] 1537 3 #[] #[])
  fields := #[]
  methods := #[k19m0]
  instanceTypes := #[]
  staticTypes := #[]
  resolved := Array.replicate 11 none
  statics := none }

def pool20 : Array CpInfo := pool [(1, .class_ 2), (0, u "com/example/lockstep/lockstep/wire/BodyBuffer$Room"), (0, .class_ 4), (0, u "java/lang/Object"), (9, .class_ 15), (0, u "com/example/lockstep/lockstep/wire/BodyBuffer")] 2

/-- com/example/lockstep/lockstep/wire/BodyBuffer$Room -/
def k20 : Class := { plain "com/example/lockstep/lockstep/wire/BodyBuffer$Room" (some 0) with
  accessFlags := 1537
  interfaces := #[]
  cf := some (fileOf pool20 1 #[.nestHost 14] #[] 1537 3 #[] #[])
  fields := #[]
  methods := #[]
  instanceTypes := #[]
  staticTypes := #[]
  resolved := Array.replicate 18 none
  statics := none }

def pool21 : Array CpInfo := pool [(1, .fieldref 2 3), (0, .class_ 4), (0, .nameAndType 5 6), (0, u "com/example/lockstep/lockstep/session/FrameRoom$Share"), (0, u "this$0"), (0, u "Lcom/example/lockstep/lockstep/session/FrameRoom;"), (0, .methodref 8 9), (0, .class_ 10), (0, .nameAndType 11 12), (0, u "java/lang/Object"), (0, u "<init>"), (0, u "()V"), (0, .fieldref 2 14), (0, .nameAndType 15 16), (0, u "slot"), (0, u "I"), (0, .fieldref 2 18), (0, .nameAndType 19 20), (0, u "shed"), (0, u "Ljava/lang/Runnable;"), (0, .methodref 22 23), (0, .class_ 24), (0, .nameAndType 25 26), (0, u "com/example/lockstep/lockstep/session/FrameRoom"), (0, u "take"), (0, u "(Lcom/example/lockstep/lockstep/session/FrameRoom$Share;JJ)Z"), (0, .fieldref 2 28), (0, .nameAndType 29 30), (0, u "held"), (0, u "J"), (4, .methodref 22 36), (0, .nameAndType 37 38), (0, u "give"), (0, u "(Lcom/example/lockstep/lockstep/session/FrameRoom$Share;J)V"), (4, .class_ 44), (0, u "com/example/lockstep/lockstep/wire/BodyBuffer$Room"), (0, u "moved"), (0, u "(Lcom/example/lockstep/lockstep/session/FrameRoom;Ljava/lang/Runnable;)V"), (3, u "(J)Z"), (1, u "takeOnTop"), (2, u "(J)V")] 10

def k21c0 : Code := { maxStack := 2, maxLocals := 3, code := prog_44_method_1_code, exceptionTable := #[], attributes := #[] }
def k21m0 : Method := { name := "<init>", desc := "(Lcom/example/lockstep/lockstep/session/FrameRoom;Ljava/lang/Runnable;)V", sig := { parameters := [(.object "com/example/lockstep/lockstep/session/FrameRoom"), (.object "java/lang/Runnable")], returnType := none }, accessFlags := 2, code := some k21c0 }
def k21c1 : Code := { maxStack := 6, maxLocals := 3, code := prog_44_method_4_code, exceptionTable := #[], attributes := #[] }
def k21m1 : Method := { name := "takeOnTop", desc := "(J)Z", sig := { parameters := [.long], returnType := some .boolean }, accessFlags := 0, code := some k21c1 }
def k21c2 : Code := { maxStack := 4, maxLocals := 3, code := prog_44_method_6_code, exceptionTable := #[], attributes := #[] }
def k21m2 : Method := { name := "give", desc := "(J)V", sig := { parameters := [.long], returnType := none }, accessFlags := 1, code := some k21c2 }
/-- com/example/lockstep/lockstep/session/FrameRoom$Share -/
def k21 : Class := { plain "com/example/lockstep/lockstep/session/FrameRoom$Share" (some 0) with
  accessFlags := 33
  interfaces := #[20]
  cf := some (fileOf pool21 2 #[.nestHost 22] #[{ accessFlags := 2, nameIndex := 11, descriptorIndex := 46, attributes := #[] }, { accessFlags := 0, nameIndex := 52, descriptorIndex := 50, attributes := #[] }, { accessFlags := 1, nameIndex := 37, descriptorIndex := 55, attributes := #[] }] 33 8 #[43] #[{ accessFlags := 18, nameIndex := 19, descriptorIndex := 20, attributes := #[] }, { accessFlags := 2, nameIndex := 29, descriptorIndex := 30, attributes := #[] }, { accessFlags := 2, nameIndex := 45, descriptorIndex := 30, attributes := #[] }, { accessFlags := 2, nameIndex := 15, descriptorIndex := 16, attributes := #[] }, { accessFlags := 4112, nameIndex := 5, descriptorIndex := 6, attributes := #[] }])
  fields := #[{ name := "shed", type := (.object "java/lang/Runnable"), accessFlags := 18, slot := 0, constantValue := 0 }, { name := "held", type := .long, accessFlags := 2, slot := 1, constantValue := 0 }, { name := "moved", type := .long, accessFlags := 2, slot := 2, constantValue := 0 }, { name := "slot", type := .int, accessFlags := 2, slot := 3, constantValue := 0 }, { name := "this$0", type := (.object "com/example/lockstep/lockstep/session/FrameRoom"), accessFlags := 4112, slot := 4, constantValue := 0 }]
  methods := #[k21m0, k21m1, k21m2]
  instanceTypes := #[(.object "java/lang/Runnable"), .long, .long, .int, (.object "com/example/lockstep/lockstep/session/FrameRoom")]
  staticTypes := #[]
  resolved := Array.replicate 66 none
  statics := none }

def pool22 : Array CpInfo := pool [(1, .class_ 2), (0, u "java/lang/Math"), (1, .class_ 6), (1, u "java/lang/Object"), (0, u "<init>"), (0, u "()V"), (89, .class_ 100), (1, u "java/lang/Math$RandomNumberGeneratorHolder"), (20, u "(JJ)J"), (50, u "negativeZeroFloatBits"), (0, u "J"), (2, u "negativeZeroDoubleBits"), (21, u "max"), (2, u "min"), (43, u "$assertionsDisabled"), (0, u "Z"), (88, u "(II)I"), (2, u "twoToTheDoubleScaleDown"), (0, u "D"), (4, u "twoToTheDoubleScaleUp"), (9, u "E"), (3, u "PI"), (2, u "TAU"), (2, u "DEGREES_TO_RADIANS"), (0, u "RADIANS_TO_DEGREES")] 94

def k22m0 : Method := { name := "<init>", desc := "()V", sig := { parameters := [], returnType := none }, accessFlags := 2, code := none }
def k22c1 : Code := { maxStack := 2, maxLocals := 2, code := jdk_29_method_65_code, exceptionTable := #[], attributes := #[] }
def k22m1 : Method := { name := "max", desc := "(II)I", sig := { parameters := [.int, .int], returnType := some .int }, accessFlags := 9, code := some k22c1 }
def k22c2 : Code := { maxStack := 4, maxLocals := 4, code := jdk_29_method_66_code, exceptionTable := #[], attributes := #[] }
def k22m2 : Method := { name := "max", desc := "(JJ)J", sig := { parameters := [.long, .long], returnType := some .long }, accessFlags := 9, code := some k22c2 }
def k22c3 : Code := { maxStack := 4, maxLocals := 4, code := jdk_29_method_70_code, exceptionTable := #[], attributes := #[] }
def k22m3 : Method := { name := "min", desc := "(JJ)J", sig := { parameters := [.long, .long], returnType := some .long }, accessFlags := 9, code := some k22c3 }
/-- java/lang/Math -/
def k22 : Class := { plain "java/lang/Math" (some 0) with
  accessFlags := 49
  interfaces := #[]
  cf := some (fileOf pool22 1 #[.nestMembers #[98]] #[{ accessFlags := 2, nameIndex := 7, descriptorIndex := 8, attributes := #[] }, { accessFlags := 9, nameIndex := 198, descriptorIndex := 335, attributes := #[] }, { accessFlags := 9, nameIndex := 198, descriptorIndex := 121, attributes := #[] }, { accessFlags := 9, nameIndex := 201, descriptorIndex := 121, attributes := #[] }] 49 4 #[] #[{ accessFlags := 25, nameIndex := 354, descriptorIndex := 339, attributes := #[] }, { accessFlags := 25, nameIndex := 358, descriptorIndex := 339, attributes := #[] }, { accessFlags := 25, nameIndex := 361, descriptorIndex := 339, attributes := #[] }, { accessFlags := 26, nameIndex := 364, descriptorIndex := 339, attributes := #[] }, { accessFlags := 26, nameIndex := 365, descriptorIndex := 339, attributes := #[] }, { accessFlags := 26, nameIndex := 172, descriptorIndex := 173, attributes := #[] }, { accessFlags := 26, nameIndex := 176, descriptorIndex := 173, attributes := #[] }, { accessFlags := 8, nameIndex := 344, descriptorIndex := 339, attributes := #[] }, { accessFlags := 8, nameIndex := 338, descriptorIndex := 339, attributes := #[] }, { accessFlags := 4120, nameIndex := 245, descriptorIndex := 246, attributes := #[] }])
  fields := #[{ name := "E", type := .double, accessFlags := 25, slot := 0, constantValue := 0 }, { name := "PI", type := .double, accessFlags := 25, slot := 1, constantValue := 0 }, { name := "TAU", type := .double, accessFlags := 25, slot := 2, constantValue := 0 }, { name := "DEGREES_TO_RADIANS", type := .double, accessFlags := 26, slot := 3, constantValue := 0 }, { name := "RADIANS_TO_DEGREES", type := .double, accessFlags := 26, slot := 4, constantValue := 0 }, { name := "negativeZeroFloatBits", type := .long, accessFlags := 26, slot := 5, constantValue := 0 }, { name := "negativeZeroDoubleBits", type := .long, accessFlags := 26, slot := 6, constantValue := 0 }, { name := "twoToTheDoubleScaleUp", type := .double, accessFlags := 8, slot := 7, constantValue := 0 }, { name := "twoToTheDoubleScaleDown", type := .double, accessFlags := 8, slot := 8, constantValue := 0 }, { name := "$assertionsDisabled", type := .boolean, accessFlags := 4120, slot := 9, constantValue := 0 }]
  methods := #[k22m0, k22m1, k22m2, k22m3]
  instanceTypes := #[]
  staticTypes := #[.double, .double, .double, .double, .double, .long, .long, .double, .double, .boolean]
  resolved := Array.replicate 460 none
  statics := none }

def pool23 : Array CpInfo := pool [(2, .class_ 4), (1, u "java/lang/Object"), (0, u "<init>"), (0, u "()V"), (35, .class_ 44), (1, u "java/util/Objects"), (60, .methodref 106 107), (0, .class_ 108), (0, .nameAndType 109 110), (0, u "jdk/internal/util/Preconditions"), (0, u "checkIndex"), (0, u "(IILjava/util/function/BiFunction;)I"), (60, u "(II)I")] 12

def k23m0 : Method := { name := "<init>", desc := "()V", sig := { parameters := [], returnType := none }, accessFlags := 2, code := none }
def k23c1 : Code := { maxStack := 3, maxLocals := 2, code := jdk_31_method_17_code, exceptionTable := #[], attributes := #[] }
def k23m1 : Method := { name := "checkIndex", desc := "(II)I", sig := { parameters := [.int, .int], returnType := some .int }, accessFlags := 9, code := some k23c1 }
/-- java/util/Objects -/
def k23 : Class := { plain "java/util/Objects" (some 0) with
  accessFlags := 49
  interfaces := #[]
  cf := some (fileOf pool23 42 #[] #[{ accessFlags := 2, nameIndex := 5, descriptorIndex := 6, attributes := #[] }, { accessFlags := 9, nameIndex := 109, descriptorIndex := 171, attributes := #[] }] 49 2 #[] #[])
  fields := #[]
  methods := #[k23m0, k23m1]
  instanceTypes := #[]
  staticTypes := #[]
  resolved := Array.replicate 184 none
  statics := none }

def pool24 : Array CpInfo := pool [(2, .class_ 4), (1, u "java/lang/Object"), (0, u "<init>"), (0, u "()V"), (17, .class_ 26), (1, u "jdk/internal/util/Preconditions"), (6, u "checkIndex"), (21, .class_ 56), (0, u "jdk/internal/util/Preconditions$4"), (57, .class_ 115), (0, u "jdk/internal/util/Preconditions$1"), (7, u "SIOOBE_FORMATTER"), (0, u "Ljava/util/function/BiFunction;"), (0, .class_ 126), (0, u "jdk/internal/util/Preconditions$2"), (3, u "AIOOBE_FORMATTER"), (0, .class_ 132), (0, u "jdk/internal/util/Preconditions$3"), (3, u "IOOBE_FORMATTER"), (41, u "(IILjava/util/function/BiFunction;)I")] 15

def k24m0 : Method := { name := "<init>", desc := "()V", sig := { parameters := [], returnType := none }, accessFlags := 1, code := none }
def k24c1 : Code := { maxStack := 3, maxLocals := 3, code := jdk_41_method_11_code, exceptionTable := #[], attributes := #[] }
def k24m1 : Method := { name := "checkIndex", desc := "(IILjava/util/function/BiFunction;)I", sig := { parameters := [.int, .int, (.object "java/util/function/BiFunction")], returnType := some .int }, accessFlags := 9, code := some k24c1 }
/-- jdk/internal/util/Preconditions -/
def k24 : Class := { plain "jdk/internal/util/Preconditions" (some 0) with
  accessFlags := 33
  interfaces := #[]
  cf := some (fileOf pool24 24 #[.nestMembers #[55, 131, 125, 114]] #[{ accessFlags := 1, nameIndex := 5, descriptorIndex := 6, attributes := #[] }, { accessFlags := 9, nameIndex := 33, descriptorIndex := 178, attributes := #[] }] 33 2 #[] #[{ accessFlags := 25, nameIndex := 123, descriptorIndex := 124, attributes := #[] }, { accessFlags := 25, nameIndex := 130, descriptorIndex := 124, attributes := #[] }, { accessFlags := 25, nameIndex := 136, descriptorIndex := 124, attributes := #[] }])
  fields := #[{ name := "SIOOBE_FORMATTER", type := (.object "java/util/function/BiFunction"), accessFlags := 25, slot := 0, constantValue := 0 }, { name := "AIOOBE_FORMATTER", type := (.object "java/util/function/BiFunction"), accessFlags := 25, slot := 1, constantValue := 0 }, { name := "IOOBE_FORMATTER", type := (.object "java/util/function/BiFunction"), accessFlags := 25, slot := 2, constantValue := 0 }]
  methods := #[k24m0, k24m1]
  instanceTypes := #[]
  staticTypes := #[(.object "java/util/function/BiFunction"), (.object "java/util/function/BiFunction"), (.object "java/util/function/BiFunction")]
  resolved := Array.replicate 194 none
  statics := none }

/-- the primitive byte -/
def k25 : Class := { plain "byte" none with kind := .primitive 'B', accessFlags := 0x411 }
/-- [B -/
def k26 : Class := { plain "[B" (some 0) with kind := .array 25 .byte, interfaces := #[17, 7], accessFlags := 1041 }

/-- the primitive int -/
def k27 : Class := { plain "int" none with kind := .primitive 'I', accessFlags := 0x411 }
/-- [I -/
def k28 : Class := { plain "[I" (some 0) with kind := .array 27 .int, interfaces := #[17, 7], accessFlags := 1041 }

/-- [Lcom/example/lockstep/lockstep/session/Event; -/
def k29 : Class := { plain "[Lcom/example/lockstep/lockstep/session/Event;" (some 0) with kind := .array 2 (.object "com/example/lockstep/lockstep/session/Event"), interfaces := #[17, 7], accessFlags := 1041 }

/-- [Ljava/lang/Object; -/
def k30 : Class := { plain "[Ljava/lang/Object;" (some 0) with kind := .array 0 (.object "java/lang/Object"), interfaces := #[17, 7], accessFlags := 1041 }

def classes0 : Array Class := #[k0, k1, k2, k3, k4, k5, k6, k7, k8, k9, k10, k11, k12, k13, k14, k15, k16, k17, k18, k19, k20, k21, k22, k23, k24, k25, k26, k27, k28, k29, k30]
/-- the class that the rule has made for the site at 26 of com/example/lockstep/lockstep/session/History.<init> -/
def k31 : Class := Jvm.LamKit.madeRec { classes := classes0 } "com/example/lockstep/lockstep/session/History" (Jvm.Lambda.Shape.mk "java/lang/Runnable" "run" (Jvm.ClassFile.MethodDescriptor.mk ([] : List Jvm.ClassFile.FieldType) none) ([(Jvm.ClassFile.FieldType.object "com/example/lockstep/lockstep/session/History")] : List Jvm.ClassFile.FieldType) (5 : Nat) "com/example/lockstep/lockstep/session/History" "dropOldest" (Jvm.ClassFile.MethodDescriptor.mk ([] : List Jvm.ClassFile.FieldType) none) false (Jvm.ClassFile.MethodDescriptor.mk ([] : List Jvm.ClassFile.FieldType) none)) 31

def heap : Heap := #[{ cls := 9, slots := #[.ref 4, .null, .null], vm := .statics 9 },
  { cls := 18, slots := #[.long 0, .int 0, .ref 2, .ref 3], vm := .statics 18 },
  { cls := 30, slots := #[], vm := .none },
  { cls := 30, slots := #[], vm := .none },
  { cls := 9, slots := #[.null, .int 0, .int 0], vm := .none }]
def classes : Array Class := #[k0, k1, k2, k3, k4, k5, k6, k7, k8, k9, k10, k11, k12, k13, k14, k15, k16, k17, k18, k19, k20, k21, k22, k23, k24, k25, k26, k27, k28, k29, k30, k31]
def interned : List (Array UInt16 × Addr) := []
def slotsUsed : Nat := 10
def theMethod : MethodId := ⟨1, 1⟩
def args0 : Array Value := #[.int 5, .long 3, .long 2, .int 1, .long 2]
def aboutOver (below : List Frame) : State where
  vm := { classes := classes, interned := interned.toArray }
  heap := heap
  slotsUsed := slotsUsed
  threads := #[{ frames := .invoking theMethod args0 :: below }]
def below0 : List Frame := [.native { method := ⟨0, 0⟩, args := #[] }]
def about1 : State := aboutOver below0
def p0 : Program := .bare "" "" ""
def e0 : Env := launch0.env 0 0 0
theorem w_frames : about1.frames = Frame.invoking theMethod args0 :: below0 := rfl
set_option maxRecDepth 65536 in
theorem w_args : argsFit about1.vm theMethod args0 = true := by decide +kernel
set_option maxRecDepth 65536 in
theorem w_heap : heapFits about1 = true := by decide +kernel
set_option maxRecDepth 65536 in
theorem w_runnable : about1.curStatus? = some .runnable := by decide +kernel
set_option maxRecDepth 65536 in
theorem w_alone : about1.alone = true := by decide +kernel
set_option maxRecDepth 65536 in
theorem w_named : about1.methodNamed? x = some theMethod := by decide +kernel
set_option maxRecDepth 65536 in
theorem w_hears : about1.hears theMethod below0 = true := by decide +kernel
set_option maxRecDepth 65536 in
theorem w_ripe : about1.ripe theMethod args0 below0 = true := by decide +kernel
theorem w_running : about1.status = .running := rfl
set_option maxRecDepth 65536 in
theorem w_room : about1.hasRoom e0.platform room_1 = true :=
  launch0.hasRoom_least _ room_1 (by decide +kernel) (by decide +kernel) (by decide +kernel) (by decide +kernel) (by decide +kernel) (by decide +kernel)
theorem allAtoms_all (ts : List Jvm.Cond) (a : Array Jvm.Value) (st : Jvm.State) : (allAtoms ts).before a st = ts.all (fun c => c.before a st) := by
  induction ts with
  | nil => rfl
  | cons c t ih =>
    show (Jvm.Cond.and c (allAtoms t)).before a st = _
    rw [Jvm.Cond.before_and, ih, List.all_cons]
def words1 : List Jvm.Cond := Jvm.Cond.code x code maxLocals ret :: tables_1
/-- a 'code' word, met by the world's own term for the bytes: nothing is compared byte by byte -/
theorem code_word {y : MethodName} {bytes : ByteArray} {mx : Nat} {rt : Option FieldType} {a : Array Value} {s : State} {m : MethodId} {meth : Method} {c : Code} (h1 : s.methodNamed? y = some m) (h2 : s.vm.method? m = some meth) (h3 : meth.code = some c) (h4 : c.code = bytes)
    (h5 : (c.maxLocals == mx && c.exceptionTable.isEmpty && decide (c.maxStack ≤ mostOperands) && decide (meth.sig.returnType = rt) && !meth.locks && decide (parseMethodDescriptor y.desc = some meth.sig)) = true) : (Jvm.Cond.code y bytes mx rt).before a s = true := by
  simp only [Bool.and_eq_true, beq_iff_eq, Bool.not_eq_true', decide_eq_true_eq] at h5
  obtain ⟨⟨⟨⟨⟨g1, g2⟩, g3⟩, g4⟩, g5⟩, g6⟩ := h5
  simp [Cond.before, Cond.holds, Cond.value, h1, h2, h3, h4, g1, g2, g3, g4, g5, g6]
def isCode : Jvm.Cond → Bool
  | .code _ _ _ _ => true
  | _ => false
theorem all_split {L : List Jvm.Cond} {P : Jvm.Cond → Bool} (h1 : L.all (fun c => isCode c || P c) = true) (h2 : ∀ c ∈ L.filter isCode, P c = true) : L.all P = true := by
  refine List.all_eq_true.mpr fun c hc => ?_
  have h := List.all_eq_true.mp h1 c hc
  rcases Bool.eq_false_or_eq_true (isCode c) with hi | hi
  · exact h2 c (List.mem_filter.mpr ⟨hc, hi⟩)
  · simpa [hi] using h
set_option maxRecDepth 65536 in
theorem w_c0 : (Jvm.Cond.code x code maxLocals ret).before args0 about1 = true := code_word (m := ⟨1, 1⟩) (meth := k1m1) (c := k1c1) (by decide +kernel) rfl rfl rfl (by decide +kernel)
set_option maxRecDepth 65536 in
theorem w_c1 : (Jvm.Cond.code own_y0 prog_41_method_1_code (6 : Nat) none).before args0 about1 = true := code_word (m := ⟨2, 0⟩) (meth := k2m0) (c := k2c0) (by decide +kernel) rfl rfl rfl (by decide +kernel)
set_option maxRecDepth 65536 in
theorem w_c2 : (Jvm.Cond.code yw0 object_method_1_code (1 : Nat) none).before args0 about1 = true := code_word (m := ⟨0, 0⟩) (meth := k0m0) (c := k0c0) (by decide +kernel) rfl rfl rfl (by decide +kernel)
set_option maxRecDepth 65536 in
theorem w_c3 : (Jvm.Cond.code own_y3 prog_42_method_1_code (3 : Nat) none).before args0 about1 = true := code_word (m := ⟨4, 0⟩) (meth := k4m0) (c := k4c0) (by decide +kernel) rfl rfl rfl (by decide +kernel)
set_option maxRecDepth 65536 in
theorem w_c4 : (Jvm.Cond.code own_y4 prog_42_method_2_code (4 : Nat) none).before args0 about1 = true := code_word (m := ⟨4, 1⟩) (meth := k4m1) (c := k4c1) (by decide +kernel) rfl rfl rfl (by decide +kernel)
set_option maxRecDepth 65536 in
theorem w_c5 : (Jvm.Cond.code own_y30 jdk_38_method_2_code (1 : Nat) none).before args0 about1 = true := code_word (m := ⟨18, 0⟩) (meth := k18m0) (c := k18c0) (by decide +kernel) rfl rfl rfl (by decide +kernel)
set_option maxRecDepth 65536 in
theorem w_c6 : (Jvm.Cond.code own_y29 jdk_39_method_1_code (1 : Nat) none).before args0 about1 = true := code_word (m := ⟨15, 0⟩) (meth := k15m0) (c := k15c0) (by decide +kernel) rfl rfl rfl (by decide +kernel)
set_option maxRecDepth 65536 in
theorem w_c7 : (Jvm.Cond.code own_y28 jdk_22_method_1_code (1 : Nat) none).before args0 about1 = true := code_word (m := ⟨12, 0⟩) (meth := k12m0) (c := k12c0) (by decide +kernel) rfl rfl rfl (by decide +kernel)
set_option maxRecDepth 65536 in
theorem w_c8 : (Jvm.Cond.code own_y17 prog_49_method_1_code (5 : Nat) none).before args0 about1 = true := code_word (m := ⟨3, 0⟩) (meth := k3m0) (c := k3c0) (by decide +kernel) rfl rfl rfl (by decide +kernel)
set_option maxRecDepth 65536 in
theorem w_c9 : (Jvm.Cond.code own_y9 prog_42_method_4_code (2 : Nat) (Option.some (Jvm.ClassFile.FieldType.object "com/example/lockstep/lockstep/session/FrameRoom$Share"))).before args0 about1 = true := code_word (m := ⟨4, 2⟩) (meth := k4m2) (c := k4c2) (by decide +kernel) rfl rfl rfl (by decide +kernel)
set_option maxRecDepth 65536 in
theorem w_c10 : (Jvm.Cond.code own_y14 prog_44_method_1_code (3 : Nat) none).before args0 about1 = true := code_word (m := ⟨21, 0⟩) (meth := k21m0) (c := k21c0) (by decide +kernel) rfl rfl rfl (by decide +kernel)
set_option maxRecDepth 65536 in
theorem w_c11 : (Jvm.Cond.code own_y21 prog_49_method_3_code (5 : Nat) (Option.some (Jvm.ClassFile.FieldType.object "com/example/lockstep/lockstep/session/Event"))).before args0 about1 = true := code_word (m := ⟨3, 2⟩) (meth := k3m2) (c := k3c2) (by decide +kernel) rfl rfl rfl (by decide +kernel)
set_option maxRecDepth 65536 in
theorem w_c12 : (Jvm.Cond.code own_y24 method_4_code (8 : Nat) (Option.some Jvm.ClassFile.FieldType.int)).before args0 about1 = true := code_word (m := ⟨1, 3⟩) (meth := k1m3) (c := k1c3) (by decide +kernel) rfl rfl rfl (by decide +kernel)
set_option maxRecDepth 65536 in
theorem w_c13 : (Jvm.Cond.code own_y18 prog_49_method_2_code (4 : Nat) none).before args0 about1 = true := code_word (m := ⟨3, 1⟩) (meth := k3m1) (c := k3c1) (by decide +kernel) rfl rfl rfl (by decide +kernel)
set_option maxRecDepth 65536 in
theorem w_c14 : (Jvm.Cond.code own_y1 prog_41_method_4_code (1 : Nat) (Option.some (Jvm.ClassFile.FieldType.array Jvm.ClassFile.FieldType.byte))).before args0 about1 = true := code_word (m := ⟨2, 2⟩) (meth := k2m2) (c := k2c2) (by decide +kernel) rfl rfl rfl (by decide +kernel)
set_option maxRecDepth 65536 in
theorem w_c15 : (Jvm.Cond.code own_y19 prog_49_method_8_code (1 : Nat) (Option.some Jvm.ClassFile.FieldType.long)).before args0 about1 = true := code_word (m := ⟨3, 5⟩) (meth := k3m5) (c := k3c5) (by decide +kernel) rfl rfl rfl (by decide +kernel)
set_option maxRecDepth 65536 in
theorem w_c16 : (Jvm.Cond.code own_y16 prog_44_method_4_code (3 : Nat) (Option.some Jvm.ClassFile.FieldType.boolean)).before args0 about1 = true := code_word (m := ⟨21, 1⟩) (meth := k21m1) (c := k21c1) (by decide +kernel) rfl rfl rfl (by decide +kernel)
set_option maxRecDepth 65536 in
theorem w_c17 : (Jvm.Cond.code own_y12 prog_42_method_5_code (8 : Nat) (Option.some Jvm.ClassFile.FieldType.boolean)).before args0 about1 = true := code_word (m := ⟨4, 3⟩) (meth := k4m3) (c := k4c3) (by decide +kernel) rfl rfl rfl (by decide +kernel)
set_option maxRecDepth 65536 in
theorem w_c18 : (Jvm.Cond.code own_y13 prog_42_method_6_code (8 : Nat) (Option.some (Jvm.ClassFile.FieldType.object "com/example/lockstep/lockstep/session/FrameRoom$Share"))).before args0 about1 = true := code_word (m := ⟨4, 4⟩) (meth := k4m4) (c := k4c4) (by decide +kernel) rfl rfl rfl (by decide +kernel)
set_option maxRecDepth 65536 in
theorem w_c19 : (Jvm.Cond.code own_y7 prog_42_method_10_code (3 : Nat) none).before args0 about1 = true := code_word (m := ⟨4, 7⟩) (meth := k4m7) (c := k4c7) (by decide +kernel) rfl rfl rfl (by decide +kernel)
set_option maxRecDepth 65536 in
theorem w_c20 : (Jvm.Cond.code own_y41 jdk_38_method_8_code (1 : Nat) (Option.some Jvm.ClassFile.FieldType.int)).before args0 about1 = true := code_word (m := ⟨18, 3⟩) (meth := k18m3) (c := k18c3) (by decide +kernel) rfl rfl rfl (by decide +kernel)
set_option maxRecDepth 65536 in
theorem w_c21 : (Jvm.Cond.code own_y31 jdk_38_method_25_code (2 : Nat) (Option.some Jvm.ClassFile.FieldType.boolean)).before args0 about1 = true := code_word (m := ⟨18, 9⟩) (meth := k18m9) (c := k18c9) (by decide +kernel) rfl rfl rfl (by decide +kernel)
set_option maxRecDepth 65536 in
theorem w_c22 : (Jvm.Cond.code own_y32 jdk_38_method_24_code (4 : Nat) none).before args0 about1 = true := code_word (m := ⟨18, 8⟩) (meth := k18m8) (c := k18c8) (by decide +kernel) rfl rfl rfl (by decide +kernel)
set_option maxRecDepth 65536 in
theorem w_c23 : (Jvm.Cond.code own_y36 jdk_38_method_7_code (1 : Nat) (Option.some (Jvm.ClassFile.FieldType.array (Jvm.ClassFile.FieldType.object "java/lang/Object")))).before args0 about1 = true := code_word (m := ⟨18, 2⟩) (meth := k18m2) (c := k18c2) (by decide +kernel) rfl rfl rfl (by decide +kernel)
set_option maxRecDepth 65536 in
theorem w_c24 : (Jvm.Cond.code own_y37 jdk_38_method_6_code (4 : Nat) (Option.some (Jvm.ClassFile.FieldType.array (Jvm.ClassFile.FieldType.object "java/lang/Object")))).before args0 about1 = true := code_word (m := ⟨18, 1⟩) (meth := k18m1) (c := k18c1) (by decide +kernel) rfl rfl rfl (by decide +kernel)
set_option maxRecDepth 65536 in
theorem w_c25 : (Jvm.Cond.code own_y25 jdk_29_method_65_code (2 : Nat) (Option.some Jvm.ClassFile.FieldType.int)).before args0 about1 = true := code_word (m := ⟨22, 1⟩) (meth := k22m1) (c := k22c1) (by decide +kernel) rfl rfl rfl (by decide +kernel)
set_option maxRecDepth 65536 in
theorem w_c26 : (Jvm.Cond.code own_y11 prog_42_method_11_code (4 : Nat) none).before args0 about1 = true := code_word (m := ⟨4, 8⟩) (meth := k4m8) (c := k4c8) (by decide +kernel) rfl rfl rfl (by decide +kernel)
set_option maxRecDepth 65536 in
theorem w_c27 : (Jvm.Cond.code own_y8 prog_42_method_13_code (3 : Nat) none).before args0 about1 = true := code_word (m := ⟨4, 10⟩) (meth := k4m10) (c := k4c10) (by decide +kernel) rfl rfl rfl (by decide +kernel)
set_option maxRecDepth 65536 in
theorem w_c28 : (Jvm.Cond.code own_y40 jdk_38_method_23_code (4 : Nat) (Option.some (Jvm.ClassFile.FieldType.object "java/lang/Object"))).before args0 about1 = true := code_word (m := ⟨18, 7⟩) (meth := k18m7) (c := k18c7) (by decide +kernel) rfl rfl rfl (by decide +kernel)
set_option maxRecDepth 65536 in
theorem w_c29 : (Jvm.Cond.code own_y48 jdk_31_method_17_code (2 : Nat) (Option.some Jvm.ClassFile.FieldType.int)).before args0 about1 = true := code_word (m := ⟨23, 1⟩) (meth := k23m1) (c := k23c1) (by decide +kernel) rfl rfl rfl (by decide +kernel)
set_option maxRecDepth 65536 in
theorem w_c30 : (Jvm.Cond.code own_y49 jdk_41_method_11_code (3 : Nat) (Option.some Jvm.ClassFile.FieldType.int)).before args0 about1 = true := code_word (m := ⟨24, 1⟩) (meth := k24m1) (c := k24c1) (by decide +kernel) rfl rfl rfl (by decide +kernel)
set_option maxRecDepth 65536 in
theorem w_c31 : (Jvm.Cond.code own_y33 jdk_38_method_18_code (2 : Nat) (Option.some (Jvm.ClassFile.FieldType.object "java/lang/Object"))).before args0 about1 = true := code_word (m := ⟨18, 5⟩) (meth := k18m5) (c := k18c5) (by decide +kernel) rfl rfl rfl (by decide +kernel)
set_option maxRecDepth 65536 in
theorem w_c32 : (Jvm.Cond.code own_y26 jdk_29_method_66_code (4 : Nat) (Option.some Jvm.ClassFile.FieldType.long)).before args0 about1 = true := code_word (m := ⟨22, 2⟩) (meth := k22m2) (c := k22c2) (by decide +kernel) rfl rfl rfl (by decide +kernel)
set_option maxRecDepth 65536 in
theorem w_c33 : (Jvm.Cond.code own_y27 jdk_29_method_70_code (4 : Nat) (Option.some Jvm.ClassFile.FieldType.long)).before args0 about1 = true := code_word (m := ⟨22, 3⟩) (meth := k22m3) (c := k22c3) (by decide +kernel) rfl rfl rfl (by decide +kernel)
set_option maxRecDepth 65536 in
theorem w_c34 : (Jvm.Cond.code own_y22 prog_49_method_7_code (4 : Nat) none).before args0 about1 = true := code_word (m := ⟨3, 4⟩) (meth := k3m4) (c := k3c4) (by decide +kernel) rfl rfl rfl (by decide +kernel)
set_option maxRecDepth 65536 in
theorem w_c35 : (Jvm.Cond.code own_y2 prog_41_method_2_code (1 : Nat) (Option.some Jvm.ClassFile.FieldType.long)).before args0 about1 = true := code_word (m := ⟨2, 1⟩) (meth := k2m1) (c := k2c1) (by decide +kernel) rfl rfl rfl (by decide +kernel)
set_option maxRecDepth 65536 in
theorem w_c36 : (Jvm.Cond.code own_y10 prog_42_method_12_code (4 : Nat) none).before args0 about1 = true := code_word (m := ⟨4, 9⟩) (meth := k4m9) (c := k4c9) (by decide +kernel) rfl rfl rfl (by decide +kernel)
set_option maxRecDepth 65536 in
theorem w_c37 : (Jvm.Cond.code own_y23 method_3_code (8 : Nat) (Option.some Jvm.ClassFile.FieldType.boolean)).before args0 about1 = true := code_word (m := ⟨1, 2⟩) (meth := k1m2) (c := k1c2) (by decide +kernel) rfl rfl rfl (by decide +kernel)
set_option maxRecDepth 65536 in
theorem w_c38 : (Jvm.Cond.code own_y20 prog_49_method_6_code (2 : Nat) none).before args0 about1 = true := code_word (m := ⟨3, 3⟩) (meth := k3m3) (c := k3c3) (by decide +kernel) rfl rfl rfl (by decide +kernel)
set_option maxRecDepth 65536 in
theorem w_c39 : (Jvm.Cond.code own_y15 prog_44_method_6_code (3 : Nat) none).before args0 about1 = true := code_word (m := ⟨21, 2⟩) (meth := k21m2) (c := k21c2) (by decide +kernel) rfl rfl rfl (by decide +kernel)
set_option maxRecDepth 65536 in
theorem w_c40 : (Jvm.Cond.code own_y6 prog_42_method_7_code (4 : Nat) none).before args0 about1 = true := code_word (m := ⟨4, 5⟩) (meth := k4m5) (c := k4c5) (by decide +kernel) rfl rfl rfl (by decide +kernel)
set_option maxRecDepth 65536 in
theorem w_c41 : (Jvm.Cond.code own_y39 jdk_38_method_29_code (4 : Nat) (Option.some (Jvm.ClassFile.FieldType.object "java/lang/Object"))).before args0 about1 = true := code_word (m := ⟨18, 10⟩) (meth := k18m10) (c := k18c10) (by decide +kernel) rfl rfl rfl (by decide +kernel)
set_option maxRecDepth 65536 in
theorem w_c42 : (Jvm.Cond.code own_y34 jdk_38_method_39_code (4 : Nat) none).before args0 about1 = true := code_word (m := ⟨18, 11⟩) (meth := k18m11) (c := k18c11) (by decide +kernel) rfl rfl rfl (by decide +kernel)
set_option maxRecDepth 65536 in
theorem w_c43 : (Jvm.Cond.code own_y5 prog_42_method_9_code (5 : Nat) (Option.some (Jvm.ClassFile.FieldType.object "com/example/lockstep/lockstep/session/FrameRoom$Share"))).before args0 about1 = true := code_word (m := ⟨4, 6⟩) (meth := k4m6) (c := k4c6) (by decide +kernel) rfl rfl rfl (by decide +kernel)
set_option maxRecDepth 65536 in
theorem w_c44 : (Jvm.Cond.code own_y38 jdk_38_method_9_code (1 : Nat) (Option.some Jvm.ClassFile.FieldType.boolean)).before args0 about1 = true := code_word (m := ⟨18, 4⟩) (meth := k18m4) (c := k18c4) (by decide +kernel) rfl rfl rfl (by decide +kernel)
set_option maxRecDepth 65536 in
theorem w_c45 : (Jvm.Cond.code own_y35 jdk_38_method_20_code (2 : Nat) (Option.some (Jvm.ClassFile.FieldType.object "java/lang/Object"))).before args0 about1 = true := code_word (m := ⟨18, 6⟩) (meth := k18m6) (c := k18c6) (by decide +kernel) rfl rfl rfl (by decide +kernel)
def codes1 : List Jvm.Cond := [Jvm.Cond.code x code maxLocals ret, Jvm.Cond.code own_y0 prog_41_method_1_code (6 : Nat) none, Jvm.Cond.code yw0 object_method_1_code (1 : Nat) none, Jvm.Cond.code own_y3 prog_42_method_1_code (3 : Nat) none, Jvm.Cond.code own_y4 prog_42_method_2_code (4 : Nat) none, Jvm.Cond.code own_y30 jdk_38_method_2_code (1 : Nat) none, Jvm.Cond.code own_y29 jdk_39_method_1_code (1 : Nat) none, Jvm.Cond.code own_y28 jdk_22_method_1_code (1 : Nat) none, Jvm.Cond.code own_y17 prog_49_method_1_code (5 : Nat) none, Jvm.Cond.code own_y9 prog_42_method_4_code (2 : Nat) (Option.some (Jvm.ClassFile.FieldType.object "com/example/lockstep/lockstep/session/FrameRoom$Share")), Jvm.Cond.code own_y14 prog_44_method_1_code (3 : Nat) none, Jvm.Cond.code own_y21 prog_49_method_3_code (5 : Nat) (Option.some (Jvm.ClassFile.FieldType.object "com/example/lockstep/lockstep/session/Event")), Jvm.Cond.code own_y24 method_4_code (8 : Nat) (Option.some Jvm.ClassFile.FieldType.int), Jvm.Cond.code own_y18 prog_49_method_2_code (4 : Nat) none, Jvm.Cond.code own_y1 prog_41_method_4_code (1 : Nat) (Option.some (Jvm.ClassFile.FieldType.array Jvm.ClassFile.FieldType.byte)), Jvm.Cond.code own_y19 prog_49_method_8_code (1 : Nat) (Option.some Jvm.ClassFile.FieldType.long), Jvm.Cond.code own_y16 prog_44_method_4_code (3 : Nat) (Option.some Jvm.ClassFile.FieldType.boolean), Jvm.Cond.code own_y12 prog_42_method_5_code (8 : Nat) (Option.some Jvm.ClassFile.FieldType.boolean), Jvm.Cond.code own_y13 prog_42_method_6_code (8 : Nat) (Option.some (Jvm.ClassFile.FieldType.object "com/example/lockstep/lockstep/session/FrameRoom$Share")), Jvm.Cond.code own_y7 prog_42_method_10_code (3 : Nat) none, Jvm.Cond.code own_y41 jdk_38_method_8_code (1 : Nat) (Option.some Jvm.ClassFile.FieldType.int), Jvm.Cond.code own_y31 jdk_38_method_25_code (2 : Nat) (Option.some Jvm.ClassFile.FieldType.boolean), Jvm.Cond.code own_y32 jdk_38_method_24_code (4 : Nat) none, Jvm.Cond.code own_y36 jdk_38_method_7_code (1 : Nat) (Option.some (Jvm.ClassFile.FieldType.array (Jvm.ClassFile.FieldType.object "java/lang/Object"))), Jvm.Cond.code own_y37 jdk_38_method_6_code (4 : Nat) (Option.some (Jvm.ClassFile.FieldType.array (Jvm.ClassFile.FieldType.object "java/lang/Object"))), Jvm.Cond.code own_y25 jdk_29_method_65_code (2 : Nat) (Option.some Jvm.ClassFile.FieldType.int), Jvm.Cond.code own_y11 prog_42_method_11_code (4 : Nat) none, Jvm.Cond.code own_y8 prog_42_method_13_code (3 : Nat) none, Jvm.Cond.code own_y40 jdk_38_method_23_code (4 : Nat) (Option.some (Jvm.ClassFile.FieldType.object "java/lang/Object")), Jvm.Cond.code own_y48 jdk_31_method_17_code (2 : Nat) (Option.some Jvm.ClassFile.FieldType.int), Jvm.Cond.code own_y49 jdk_41_method_11_code (3 : Nat) (Option.some Jvm.ClassFile.FieldType.int), Jvm.Cond.code own_y33 jdk_38_method_18_code (2 : Nat) (Option.some (Jvm.ClassFile.FieldType.object "java/lang/Object")), Jvm.Cond.code own_y26 jdk_29_method_66_code (4 : Nat) (Option.some Jvm.ClassFile.FieldType.long), Jvm.Cond.code own_y27 jdk_29_method_70_code (4 : Nat) (Option.some Jvm.ClassFile.FieldType.long), Jvm.Cond.code own_y22 prog_49_method_7_code (4 : Nat) none, Jvm.Cond.code own_y2 prog_41_method_2_code (1 : Nat) (Option.some Jvm.ClassFile.FieldType.long), Jvm.Cond.code own_y10 prog_42_method_12_code (4 : Nat) none, Jvm.Cond.code own_y23 method_3_code (8 : Nat) (Option.some Jvm.ClassFile.FieldType.boolean), Jvm.Cond.code own_y20 prog_49_method_6_code (2 : Nat) none, Jvm.Cond.code own_y15 prog_44_method_6_code (3 : Nat) none, Jvm.Cond.code own_y6 prog_42_method_7_code (4 : Nat) none, Jvm.Cond.code own_y39 jdk_38_method_29_code (4 : Nat) (Option.some (Jvm.ClassFile.FieldType.object "java/lang/Object")), Jvm.Cond.code own_y34 jdk_38_method_39_code (4 : Nat) none, Jvm.Cond.code own_y5 prog_42_method_9_code (5 : Nat) (Option.some (Jvm.ClassFile.FieldType.object "com/example/lockstep/lockstep/session/FrameRoom$Share")), Jvm.Cond.code own_y38 jdk_38_method_9_code (1 : Nat) (Option.some Jvm.ClassFile.FieldType.boolean), Jvm.Cond.code own_y35 jdk_38_method_20_code (2 : Nat) (Option.some (Jvm.ClassFile.FieldType.object "java/lang/Object"))]
set_option maxRecDepth 65536 in
theorem codes_eq : words1.filter isCode = codes1 := rfl
theorem w_codes : ∀ c ∈ words1.filter isCode, c.before args0 about1 = true := by
  rw [codes_eq]
  intro c hc
  simp only [codes1, List.mem_cons, List.not_mem_nil, or_false] at hc
  rcases hc with rfl | rfl | rfl | rfl | rfl | rfl | rfl | rfl | rfl | rfl | rfl | rfl | rfl | rfl | rfl | rfl | rfl | rfl | rfl | rfl | rfl | rfl | rfl | rfl | rfl | rfl | rfl | rfl | rfl | rfl | rfl | rfl | rfl | rfl | rfl | rfl | rfl | rfl | rfl | rfl | rfl | rfl | rfl | rfl | rfl | rfl
  · exact w_c0
  · exact w_c1
  · exact w_c2
  · exact w_c3
  · exact w_c4
  · exact w_c5
  · exact w_c6
  · exact w_c7
  · exact w_c8
  · exact w_c9
  · exact w_c10
  · exact w_c11
  · exact w_c12
  · exact w_c13
  · exact w_c14
  · exact w_c15
  · exact w_c16
  · exact w_c17
  · exact w_c18
  · exact w_c19
  · exact w_c20
  · exact w_c21
  · exact w_c22
  · exact w_c23
  · exact w_c24
  · exact w_c25
  · exact w_c26
  · exact w_c27
  · exact w_c28
  · exact w_c29
  · exact w_c30
  · exact w_c31
  · exact w_c32
  · exact w_c33
  · exact w_c34
  · exact w_c35
  · exact w_c36
  · exact w_c37
  · exact w_c38
  · exact w_c39
  · exact w_c40
  · exact w_c41
  · exact w_c42
  · exact w_c43
  · exact w_c44
  · exact w_c45
set_option maxRecDepth 65536 in
theorem w_t1 : (words1.take 24).all (fun c => isCode c || c.before args0 about1) = true := by decide +kernel
set_option maxRecDepth 65536 in
theorem w_t2 : ((words1.drop 24).take 24).all (fun c => isCode c || c.before args0 about1) = true := by decide +kernel
set_option maxRecDepth 65536 in
theorem w_t3 : (((words1.drop 24).drop 24).take 24).all (fun c => isCode c || c.before args0 about1) = true := by decide +kernel
set_option maxRecDepth 65536 in
theorem w_t4 : ((((words1.drop 24).drop 24).drop 24).take 24).all (fun c => isCode c || c.before args0 about1) = true := by decide +kernel
set_option maxRecDepth 65536 in
theorem w_t5 : (((((words1.drop 24).drop 24).drop 24).drop 24).take 24).all (fun c => isCode c || c.before args0 about1) = true := by decide +kernel
set_option maxRecDepth 65536 in
theorem w_t6 : ((((((words1.drop 24).drop 24).drop 24).drop 24).drop 24).take 24).all (fun c => isCode c || c.before args0 about1) = true := by decide +kernel
set_option maxRecDepth 65536 in
theorem w_t7 : (((((((words1.drop 24).drop 24).drop 24).drop 24).drop 24).drop 24).take 24).all (fun c => isCode c || c.before args0 about1) = true := by decide +kernel
set_option maxRecDepth 65536 in
theorem w_t8 : ((((((((words1.drop 24).drop 24).drop 24).drop 24).drop 24).drop 24).drop 24).take 24).all (fun c => isCode c || c.before args0 about1) = true := by decide +kernel
set_option maxRecDepth 65536 in
theorem w_t9 : (((((((((words1.drop 24).drop 24).drop 24).drop 24).drop 24).drop 24).drop 24).drop 24).take 24).all (fun c => isCode c || c.before args0 about1) = true := by decide +kernel
set_option maxRecDepth 65536 in
theorem w_t10 : ((((((((((words1.drop 24).drop 24).drop 24).drop 24).drop 24).drop 24).drop 24).drop 24).drop 24).take 24).all (fun c => isCode c || c.before args0 about1) = true := by decide +kernel
set_option maxRecDepth 65536 in
theorem w_t11 : (((((((((((words1.drop 24).drop 24).drop 24).drop 24).drop 24).drop 24).drop 24).drop 24).drop 24).drop 24).take 24).all (fun c => isCode c || c.before args0 about1) = true := by decide +kernel
set_option maxRecDepth 65536 in
theorem w_t12 : ((((((((((((words1.drop 24).drop 24).drop 24).drop 24).drop 24).drop 24).drop 24).drop 24).drop 24).drop 24).drop 24).take 24).all (fun c => isCode c || c.before args0 about1) = true := by decide +kernel
set_option maxRecDepth 65536 in
theorem w_t13 : ((((((((((((words1.drop 24).drop 24).drop 24).drop 24).drop 24).drop 24).drop 24).drop 24).drop 24).drop 24).drop 24).drop 24).all (fun c => isCode c || c.before args0 about1) = true := by decide +kernel
theorem w_tables : (allAtoms (Jvm.Cond.code x code maxLocals ret :: tables_1)).before args0 about1 = true := by
  rw [allAtoms_all]
  show words1.all (fun c => c.before args0 about1) = true
  refine all_split ?_ w_codes
  rw [← List.take_append_drop 24 words1, List.all_append, w_t1, ← List.take_append_drop 24 (words1.drop 24), List.all_append, w_t2, ← List.take_append_drop 24 ((words1.drop 24).drop 24), List.all_append, w_t3, ← List.take_append_drop 24 (((words1.drop 24).drop 24).drop 24), List.all_append, w_t4, ← List.take_append_drop 24 ((((words1.drop 24).drop 24).drop 24).drop 24), List.all_append, w_t5, ← List.take_append_drop 24 (((((words1.drop 24).drop 24).drop 24).drop 24).drop 24), List.all_append, w_t6, ← List.take_append_drop 24 ((((((words1.drop 24).drop 24).drop 24).drop 24).drop 24).drop 24), List.all_append, w_t7, ← List.take_append_drop 24 (((((((words1.drop 24).drop 24).drop 24).drop 24).drop 24).drop 24).drop 24), List.all_append, w_t8, ← List.take_append_drop 24 ((((((((words1.drop 24).drop 24).drop 24).drop 24).drop 24).drop 24).drop 24).drop 24), List.all_append, w_t9, ← List.take_append_drop 24 (((((((((words1.drop 24).drop 24).drop 24).drop 24).drop 24).drop 24).drop 24).drop 24).drop 24), List.all_append, w_t10, ← List.take_append_drop 24 ((((((((((words1.drop 24).drop 24).drop 24).drop 24).drop 24).drop 24).drop 24).drop 24).drop 24).drop 24), List.all_append, w_t11, ← List.take_append_drop 24 (((((((((((words1.drop 24).drop 24).drop 24).drop 24).drop 24).drop 24).drop 24).drop 24).drop 24).drop 24).drop 24), List.all_append, w_t12, w_t13]
  rfl
set_option maxRecDepth 65536 in
theorem w_rest : rest_1_c.before args0 about1 = true := by decide +kernel
set_option maxRecDepth 65536 in
theorem w_case : (Jvm.Cond.and given_1 narrow_1).before args0 about1 = true := by decide +kernel
theorem w_applies : (headSpec (Jvm.Cond.code x code maxLocals ret :: tables_1) room_1).applies x e0.platform about1 = true :=
  (Spec.applies_iff w_frames).mpr ⟨w_running, w_runnable, w_alone, w_named, w_hears, w_ripe, w_room, w_tables⟩
theorem atStart : AtStart classFile x code maxLocals ret World_1 tables_1 room_1 Calls_1 rest_1 Pre_1 launch0 p0 e0 about1 theMethod args0 below0 :=
  ⟨lists_1, trivial, launch0.admits_env _ _ _, launch0.least_env, fairChoices_fair.cas, fairChoices_fair.clock, w_frames, w_args, w_heap, w_applies, trivial, w_rest, w_case⟩
end start1
theorem witness_1 : WitnessClaimed_1 := ⟨start1.p0, start1.e0, start1.about1, start1.theMethod, start1.args0, start1.below0, start1.atStart⟩
end Jvm.Pilot.@@N@@
