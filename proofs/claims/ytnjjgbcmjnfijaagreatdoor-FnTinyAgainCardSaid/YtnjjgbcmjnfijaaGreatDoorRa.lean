/- Small parts of the package: what they hand back, and the very world behind them. No condition. -/
import Derived.Test.YtnjjgbcmjnfijaaGreatDoorR0
import Derived.Test.YtnjjgbcmjnfijaaGreatDoorGe
import Derived.BigRegion
namespace Go.Proofs.YtnjjgbcmjnfijaaGreatDoor
set_option maxHeartbeats 1000000
open Go.RowKit
theorem ac220(d g o n c:Nat)(w:World):Calls Tryz.prog 220 #[.agg #[.int .u8 d,.slice (some ⟨g,o,none⟩) n c]] w fun e w'=>e=.returned (.int .u8 d)∧w'=(w.alloc (.cells #[.int .u8 d,.slice (some ⟨g,o,none⟩) n c] 119)):=by
 go_enter Tryz.func220,Tryz.ntmps220
 go_wp2_with fail
 all_goals (go_ret;exact⟨rfl,rfl⟩)
theorem ac151(d g o n c:Nat)(w:World):Calls Tryz.prog 151 #[.agg #[.int .u8 d,.slice (some ⟨g,o,none⟩) n c]] w fun e w'=>e=.returned (.int .u8 d)∧w'=((w.alloc (.cells #[.int .u8 d,.slice (some ⟨g,o,none⟩) n c] 121)).alloc (.cells #[.int .u8 d,.slice (some ⟨g,o,none⟩) n c] 119)):=by
 go_enter Tryz.func151,Tryz.ntmps151
 go_wp2_with (go_at_call 220;refine (ac220 _ _ _ _ _ _).mono ?_;rintro e w1 ⟨rfl,rfl⟩)
 all_goals (go_ret;exact⟨rfl,rfl⟩)
theorem ac136(d g o n c:Nat)(w:World):Calls Tryz.prog 136 #[.agg #[.int .u8 d,.slice (some ⟨g,o,none⟩) n c]] w fun e w'=>e=.returned (.agg #[.int .u8 d,.slice (some ⟨g,o,none⟩) n c])∧w'=((w.alloc (.cells #[.int .u8 d,.slice (some ⟨g,o,none⟩) n c] 121)).alloc (.cells #[.int .u8 d,.slice (some ⟨g,o,none⟩) n c] 119)):=by
 go_enter Tryz.func136,Tryz.ntmps136
 go_wp2_with fail
 all_goals exact bodyPost_ret (v:=.agg #[.int .u8 d,.slice (some ⟨g,o,none⟩) n c]) (by simp[results,Tryz.f136,go_sem]) rfl ⟨rfl,rfl⟩
theorem ac161(d g o n c:Nat)(w:World):Calls Tryz.prog 161 #[.agg #[.int .u8 d,.slice (some ⟨g,o,none⟩) n c]] w fun e w'=>e=.returned (.agg #[.int .u8 d,.slice (some ⟨g,o,none⟩) n c])∧w'=((w.alloc (.cells #[.int .u8 d,.slice (some ⟨g,o,none⟩) n c] 119)).alloc (.cells #[.int .u8 d,.slice (some ⟨g,o,none⟩) n c] 121)):=by
 go_enter Tryz.func161,Tryz.ntmps161
 go_wp2_with fail
 all_goals exact bodyPost_ret (v:=.agg #[.int .u8 d,.slice (some ⟨g,o,none⟩) n c]) (by simp[results,Tryz.f161,go_sem]) rfl ⟨rfl,rfl⟩
theorem ac159(x y z m d:Nat)(w:World):Calls Tryz.prog 159 #[.agg #[.float .f64 x,.float .f64 y,.float .f64 z,.float .f64 m,.int .u8 d]] w fun e w'=>e=.returned (.agg #[.float .f64 x,.float .f64 y,.float .f64 z,.float .f64 m,.int .u8 d,.bool true])∧w'=((w.alloc (.cells #[.float .f64 x,.float .f64 y,.float .f64 z,.float .f64 m,.int .u8 d] 113)).alloc (.cells #[.float .f64 x,.float .f64 y,.float .f64 z,.float .f64 m,.int .u8 d,.bool true] 115)):=by
 have hsf:=st_fl
 go_enter Tryz.func159,Tryz.ntmps159
 go_wp2_with fail
 all_goals exact bodyPost_ret (v:=.agg #[.float .f64 x,.float .f64 y,.float .f64 z,.float .f64 m,.int .u8 d,.bool true]) (by simp[results,Tryz.f159,go_sem]) rfl ⟨rfl,rfl⟩
theorem ac132(x y z m d:Nat)(b:Bool)(w:World):Calls Tryz.prog 132 #[.agg #[.float .f64 x,.float .f64 y,.float .f64 z,.float .f64 m,.int .u8 d,.bool b]] w fun e w'=>e=.returned (.int .u8 d)∧w'=(w.alloc (.cells #[.float .f64 x,.float .f64 y,.float .f64 z,.float .f64 m,.int .u8 d,.bool b] 115)):=by
 go_enter Tryz.func132,Tryz.ntmps132
 go_wp2_with fail
 all_goals (go_ret;exact⟨rfl,rfl⟩)
theorem ac133(x y z m d:Nat)(b:Bool)(w:World):Calls Tryz.prog 133 #[.agg #[.float .f64 x,.float .f64 y,.float .f64 z,.float .f64 m,.int .u8 d,.bool b]] w fun e w'=>e=.returned (.tuple #[.agg #[.float .f64 x,.float .f64 y,.float .f64 z,.float .f64 m,.int .u8 d],.bool b])∧w'=((w.alloc (.cells #[.float .f64 x,.float .f64 y,.float .f64 z,.float .f64 m,.int .u8 d,.bool b] 115)).alloc (.cells #[.float .f64 x,.float .f64 y,.float .f64 z,.float .f64 m,.int .u8 d] 113)).drew:=by
 have hsf:=st_fl
 go_enter Tryz.func133,Tryz.ntmps133
 go_upto_region 1 with fail
 go_region
 all_goals go_wp2_with fail
 all_goals exact bodyPost_ret (v:=.tuple #[.agg #[.float .f64 x,.float .f64 y,.float .f64 z,.float .f64 m,.int .u8 d],.bool b]) (by simp[results,Tryz.f133,go_sem]) rfl ⟨rfl,rfl⟩
theorem ac137(d g o n c:Nat)(w:World):Calls Tryz.prog 137 #[.agg #[.slice (some ⟨g,o,none⟩) n c,.int .u8 d]] w fun e w'=>e=.returned (.int .u8 d)∧w'=(w.alloc (.cells #[.slice (some ⟨g,o,none⟩) n c,.int .u8 d] 126)):=by
 go_enter Tryz.func137,Tryz.ntmps137
 go_wp2_with fail
 all_goals (go_ret;exact⟨rfl,rfl⟩)
theorem ac139(d g o n c:Nat)(w:World):Calls Tryz.prog 139 #[.agg #[.slice (some ⟨g,o,none⟩) n c,.int .u8 d]] w fun e w'=>e=.returned (.int .u8 d)∧w'=(w.alloc (.cells #[.slice (some ⟨g,o,none⟩) n c,.int .u8 d] 130)):=by
 go_enter Tryz.func139,Tryz.ntmps139
 go_wp2_with fail
 all_goals (go_ret;exact⟨rfl,rfl⟩)
theorem ac142(d g o n c:Nat)(w:World):Calls Tryz.prog 142 #[.agg #[.slice (some ⟨g,o,none⟩) n c,.int .u8 d]] w fun e w'=>e=.returned (.int .u8 d)∧w'=(w.alloc (.cells #[.slice (some ⟨g,o,none⟩) n c,.int .u8 d] 134)):=by
 go_enter Tryz.func142,Tryz.ntmps142
 go_wp2_with fail
 all_goals (go_ret;exact⟨rfl,rfl⟩)
theorem ac145(d g o n c:Nat)(w:World):Calls Tryz.prog 145 #[.agg #[.slice (some ⟨g,o,none⟩) n c,.int .u8 d]] w fun e w'=>e=.returned (.int .u8 d)∧w'=(w.alloc (.cells #[.slice (some ⟨g,o,none⟩) n c,.int .u8 d] 139)):=by
 go_enter Tryz.func145,Tryz.ntmps145
 go_wp2_with fail
 all_goals (go_ret;exact⟨rfl,rfl⟩)
theorem ac140(d g o n c:Nat)(w:World):Calls Tryz.prog 140 #[.agg #[.slice (some ⟨g,o,none⟩) n c,.int .u8 d]] w fun e w'=>e=.returned (.int .i64 n)∧w'=(w.alloc (.cells #[.slice (some ⟨g,o,none⟩) n c,.int .u8 d] 130)):=by
 go_enter Tryz.func140,Tryz.ntmps140
 go_wp2_with fail
 all_goals (go_ret;exact⟨rfl,rfl⟩)
theorem ac143(d g o n c:Nat)(w:World):Calls Tryz.prog 143 #[.agg #[.slice (some ⟨g,o,none⟩) n c,.int .u8 d]] w fun e w'=>e=.returned (.int .i64 n)∧w'=(w.alloc (.cells #[.slice (some ⟨g,o,none⟩) n c,.int .u8 d] 134)):=by
 go_enter Tryz.func143,Tryz.ntmps143
 go_wp2_with fail
 all_goals (go_ret;exact⟨rfl,rfl⟩)
theorem ac146(d g o n c:Nat)(w:World):Calls Tryz.prog 146 #[.agg #[.slice (some ⟨g,o,none⟩) n c,.int .u8 d]] w fun e w'=>e=.returned (.int .i64 n)∧w'=(w.alloc (.cells #[.slice (some ⟨g,o,none⟩) n c,.int .u8 d] 139)):=by
 go_enter Tryz.func146,Tryz.ntmps146
 go_wp2_with fail
 all_goals (go_ret;exact⟨rfl,rfl⟩)
theorem ac54(k:Int)(v:Value)(w:World):Calls Tryz.prog 54 #[.agg #[.int .i64 k,v]] w fun e w'=>e=.returned (.int .i64 k)∧w'=(w.alloc (.cells #[.int .i64 k,v] 56)):=by
 go_enter Tryz.func54,Tryz.ntmps54
 go_wp2_with fail
 all_goals (go_ret;exact⟨rfl,rfl⟩)
theorem ac134(k:Int)(v:Value)(w:World):Calls Tryz.prog 134 #[.agg #[.int .i64 k,v],.int .i64 k] w fun e w'=>e=.returned (.tuple #[])∧w'=(w.alloc (.cells #[.int .i64 k,v] 56)):=by
 have hk:(k != k)=false:=by simp
 go_enter Tryz.func134,Tryz.ntmps134
 go_wp2_with fail
 all_goals (go_end0;exact⟨rfl,rfl⟩)
theorem ac78(x y z m d:Nat)(b:Bool)(w:World):Calls Tryz.prog 78 #[.agg #[.float .f64 x,.float .f64 y,.float .f64 z,.float .f64 m,.int .u8 d,.bool b]] w fun e w'=>e=.returned (.agg #[.int .i64 1,.iface 208 (.pointer (some ⟨w.heap.size,0,none⟩))])∧w'=((w.alloc (.cells #[.float .f64 x,.float .f64 y,.float .f64 z,.float .f64 m,.int .u8 d,.bool b] 115)).alloc (.cells #[.int .i64 1,.iface 208 (.pointer (some ⟨w.heap.size,0,none⟩))] 56)):=by
 have hsf:=st_fl
 go_enter Tryz.func78,Tryz.ntmps78
 go_wp2_with fail
 all_goals exact bodyPost_ret (v:=.agg #[.int .i64 1,.iface 208 (.pointer (some ⟨w.heap.size,0,none⟩))]) (by simp[results,Tryz.f78,go_sem]) rfl ⟨rfl,rfl⟩
theorem ac80(d g o n c:Nat)(w:World):Calls Tryz.prog 80 #[.agg #[.int .u8 d,.slice (some ⟨g,o,none⟩) n c]] w fun e w'=>e=.returned (.agg #[.int .i64 2,.iface 211 (.pointer (some ⟨w.heap.size,0,none⟩))])∧w'=((w.alloc (.cells #[.int .u8 d,.slice (some ⟨g,o,none⟩) n c] 121)).alloc (.cells #[.int .i64 2,.iface 211 (.pointer (some ⟨w.heap.size,0,none⟩))] 56)):=by
 have hsf:=st_fl
 go_enter Tryz.func80,Tryz.ntmps80
 go_wp2_with fail
 all_goals exact bodyPost_ret (v:=.agg #[.int .i64 2,.iface 211 (.pointer (some ⟨w.heap.size,0,none⟩))]) (by simp[results,Tryz.f80,go_sem]) rfl ⟨rfl,rfl⟩
theorem ac82(d g o n c:Nat)(w:World):Calls Tryz.prog 82 #[.agg #[.slice (some ⟨g,o,none⟩) n c,.int .u8 d]] w fun e w'=>e=.returned (.agg #[.int .i64 3,.iface 213 (.pointer (some ⟨w.heap.size,0,none⟩))])∧w'=((w.alloc (.cells #[.slice (some ⟨g,o,none⟩) n c,.int .u8 d] 126)).alloc (.cells #[.int .i64 3,.iface 213 (.pointer (some ⟨w.heap.size,0,none⟩))] 56)):=by
 have hsf:=st_fl
 go_enter Tryz.func82,Tryz.ntmps82
 go_wp2_with fail
 all_goals exact bodyPost_ret (v:=.agg #[.int .i64 3,.iface 213 (.pointer (some ⟨w.heap.size,0,none⟩))]) (by simp[results,Tryz.f82,go_sem]) rfl ⟨rfl,rfl⟩
theorem ac84(d g o n c:Nat)(w:World):Calls Tryz.prog 84 #[.agg #[.slice (some ⟨g,o,none⟩) n c,.int .u8 d]] w fun e w'=>e=.returned (.agg #[.int .i64 4,.iface 215 (.pointer (some ⟨w.heap.size,0,none⟩))])∧w'=((w.alloc (.cells #[.slice (some ⟨g,o,none⟩) n c,.int .u8 d] 130)).alloc (.cells #[.int .i64 4,.iface 215 (.pointer (some ⟨w.heap.size,0,none⟩))] 56)):=by
 have hsf:=st_fl
 go_enter Tryz.func84,Tryz.ntmps84
 go_wp2_with fail
 all_goals exact bodyPost_ret (v:=.agg #[.int .i64 4,.iface 215 (.pointer (some ⟨w.heap.size,0,none⟩))]) (by simp[results,Tryz.f84,go_sem]) rfl ⟨rfl,rfl⟩
theorem ac86(d g o n c:Nat)(w:World):Calls Tryz.prog 86 #[.agg #[.slice (some ⟨g,o,none⟩) n c,.int .u8 d]] w fun e w'=>e=.returned (.agg #[.int .i64 5,.iface 217 (.pointer (some ⟨w.heap.size,0,none⟩))])∧w'=((w.alloc (.cells #[.slice (some ⟨g,o,none⟩) n c,.int .u8 d] 134)).alloc (.cells #[.int .i64 5,.iface 217 (.pointer (some ⟨w.heap.size,0,none⟩))] 56)):=by
 have hsf:=st_fl
 go_enter Tryz.func86,Tryz.ntmps86
 go_wp2_with fail
 all_goals exact bodyPost_ret (v:=.agg #[.int .i64 5,.iface 217 (.pointer (some ⟨w.heap.size,0,none⟩))]) (by simp[results,Tryz.f86,go_sem]) rfl ⟨rfl,rfl⟩
theorem ac88(d g o n c:Nat)(w:World):Calls Tryz.prog 88 #[.agg #[.slice (some ⟨g,o,none⟩) n c,.int .u8 d]] w fun e w'=>e=.returned (.agg #[.int .i64 6,.iface 219 (.pointer (some ⟨w.heap.size,0,none⟩))])∧w'=((w.alloc (.cells #[.slice (some ⟨g,o,none⟩) n c,.int .u8 d] 139)).alloc (.cells #[.int .i64 6,.iface 219 (.pointer (some ⟨w.heap.size,0,none⟩))] 56)):=by
 have hsf:=st_fl
 go_enter Tryz.func88,Tryz.ntmps88
 go_wp2_with fail
 all_goals exact bodyPost_ret (v:=.agg #[.int .i64 6,.iface 219 (.pointer (some ⟨w.heap.size,0,none⟩))]) (by simp[results,Tryz.f88,go_sem]) rfl ⟨rfl,rfl⟩
theorem ac56(x y z m d:Nat)(b:Bool)(h:Nat)(w:World)(q0:w.cell? ⟨h,0,none⟩=some (.float .f64 x))(q1:w.cell? ⟨h,1,none⟩=some (.float .f64 y))(q2:w.cell? ⟨h,2,none⟩=some (.float .f64 z))(q3:w.cell? ⟨h,3,none⟩=some (.float .f64 m))(q4:w.cell? ⟨h,4,none⟩=some (.int .u8 d))(q5:w.cell? ⟨h,5,none⟩=some (.bool b)): Calls Tryz.prog 56 #[.agg #[.int .i64 1,.iface 208 (.pointer (some ⟨h,0,none⟩))]] w fun e w'=>e=.returned (.agg #[.float .f64 x,.float .f64 y,.float .f64 z,.float .f64 m,.int .u8 d,.bool b])∧w'=(((w.alloc (.cells #[.int .i64 1,.iface 208 (.pointer (some ⟨h,0,none⟩))] 56)).alloc (.cells #[.float .f64 x,.float .f64 y,.float .f64 z,.float .f64 m,.int .u8 d,.bool b] 115)).alloc (.cells #[.int .i64 1,.iface 208 (.pointer (some ⟨h,0,none⟩))] 56)):=by
 have hh:h < w.heap.size:=World.block_lt_of_cell? w _ q0
 have hsf:=st_fl
 have h134:=ac134
 have p0:∀A B C,(((w.alloc A).alloc B).alloc C).cell? ⟨h,0,none⟩=some (.float .f64 x):=fun A B C=>(((Fr.refl (fun _=>False) w).alloc A).alloc B |>.alloc C).cell q0 (fun h=>h)
 have p1:∀A B C,(((w.alloc A).alloc B).alloc C).cell? ⟨h,1,none⟩=some (.float .f64 y):=fun A B C=>(((Fr.refl (fun _=>False) w).alloc A).alloc B |>.alloc C).cell q1 (fun h=>h)
 have p2:∀A B C,(((w.alloc A).alloc B).alloc C).cell? ⟨h,2,none⟩=some (.float .f64 z):=fun A B C=>(((Fr.refl (fun _=>False) w).alloc A).alloc B |>.alloc C).cell q2 (fun h=>h)
 have p3:∀A B C,(((w.alloc A).alloc B).alloc C).cell? ⟨h,3,none⟩=some (.float .f64 m):=fun A B C=>(((Fr.refl (fun _=>False) w).alloc A).alloc B |>.alloc C).cell q3 (fun h=>h)
 have p4:∀A B C,(((w.alloc A).alloc B).alloc C).cell? ⟨h,4,none⟩=some (.int .u8 d):=fun A B C=>(((Fr.refl (fun _=>False) w).alloc A).alloc B |>.alloc C).cell q4 (fun h=>h)
 have p5:∀A B C,(((w.alloc A).alloc B).alloc C).cell? ⟨h,5,none⟩=some (.bool b):=fun A B C=>(((Fr.refl (fun _=>False) w).alloc A).alloc B |>.alloc C).cell q5 (fun h=>h)
 have hta:∀(x:Value) (w:World),(Instr.typeAssert (.iface 208 x) 20 208 false).run Tryz.prog w=.ok x w:=fun _ _=>by kernel_rfl
 go_enter Tryz.func56,Tryz.ntmps56
 go_wp2_with (go_at_call 134;refine (h134 _ _ _).mono ?_;rintro e w1 ⟨rfl,rfl⟩)
 all_goals exact bodyPost_ret (v:=.agg #[.float .f64 x,.float .f64 y,.float .f64 z,.float .f64 m,.int .u8 d,.bool b]) (by simp[results,Tryz.f56,go_sem]) rfl ⟨rfl,rfl⟩
theorem ac58(d g o n c:Nat)(h:Nat)(w:World)(q0:w.cell? ⟨h,0,none⟩=some (.int .u8 d))(q1:w.cell? ⟨h,1,none⟩=some (.slice (some ⟨g,o,none⟩) n c)): Calls Tryz.prog 58 #[.agg #[.int .i64 2,.iface 211 (.pointer (some ⟨h,0,none⟩))]] w fun e w'=>e=.returned (.agg #[.int .u8 d,.slice (some ⟨g,o,none⟩) n c])∧w'=(((w.alloc (.cells #[.int .i64 2,.iface 211 (.pointer (some ⟨h,0,none⟩))] 56)).alloc (.cells #[.int .u8 d,.slice (some ⟨g,o,none⟩) n c] 121)).alloc (.cells #[.int .i64 2,.iface 211 (.pointer (some ⟨h,0,none⟩))] 56)):=by
 have hh:h < w.heap.size:=World.block_lt_of_cell? w _ q0
 have hsf:=st_fl
 have h134:=ac134
 have p0:∀A B C,(((w.alloc A).alloc B).alloc C).cell? ⟨h,0,none⟩=some (.int .u8 d):=fun A B C=>(((Fr.refl (fun _=>False) w).alloc A).alloc B |>.alloc C).cell q0 (fun h=>h)
 have p1:∀A B C,(((w.alloc A).alloc B).alloc C).cell? ⟨h,1,none⟩=some (.slice (some ⟨g,o,none⟩) n c):=fun A B C=>(((Fr.refl (fun _=>False) w).alloc A).alloc B |>.alloc C).cell q1 (fun h=>h)
 have hta:∀(x:Value) (w:World),(Instr.typeAssert (.iface 211 x) 20 211 false).run Tryz.prog w=.ok x w:=fun _ _=>by kernel_rfl
 go_enter Tryz.func58,Tryz.ntmps58
 go_wp2_with (go_at_call 134;refine (h134 _ _ _).mono ?_;rintro e w1 ⟨rfl,rfl⟩)
 all_goals exact bodyPost_ret (v:=.agg #[.int .u8 d,.slice (some ⟨g,o,none⟩) n c]) (by simp[results,Tryz.f58,go_sem]) rfl ⟨rfl,rfl⟩
theorem ac60(d g o n c:Nat)(h:Nat)(w:World)(q0:w.cell? ⟨h,0,none⟩=some (.slice (some ⟨g,o,none⟩) n c))(q1:w.cell? ⟨h,1,none⟩=some (.int .u8 d)): Calls Tryz.prog 60 #[.agg #[.int .i64 3,.iface 213 (.pointer (some ⟨h,0,none⟩))]] w fun e w'=>e=.returned (.agg #[.slice (some ⟨g,o,none⟩) n c,.int .u8 d])∧w'=(((w.alloc (.cells #[.int .i64 3,.iface 213 (.pointer (some ⟨h,0,none⟩))] 56)).alloc (.cells #[.slice (some ⟨g,o,none⟩) n c,.int .u8 d] 126)).alloc (.cells #[.int .i64 3,.iface 213 (.pointer (some ⟨h,0,none⟩))] 56)):=by
 have hh:h < w.heap.size:=World.block_lt_of_cell? w _ q0
 have hsf:=st_fl
 have h134:=ac134
 have p0:∀A B C,(((w.alloc A).alloc B).alloc C).cell? ⟨h,0,none⟩=some (.slice (some ⟨g,o,none⟩) n c):=fun A B C=>(((Fr.refl (fun _=>False) w).alloc A).alloc B |>.alloc C).cell q0 (fun h=>h)
 have p1:∀A B C,(((w.alloc A).alloc B).alloc C).cell? ⟨h,1,none⟩=some (.int .u8 d):=fun A B C=>(((Fr.refl (fun _=>False) w).alloc A).alloc B |>.alloc C).cell q1 (fun h=>h)
 have hta:∀(x:Value) (w:World),(Instr.typeAssert (.iface 213 x) 20 213 false).run Tryz.prog w=.ok x w:=fun _ _=>by kernel_rfl
 go_enter Tryz.func60,Tryz.ntmps60
 go_wp2_with (go_at_call 134;refine (h134 _ _ _).mono ?_;rintro e w1 ⟨rfl,rfl⟩)
 all_goals exact bodyPost_ret (v:=.agg #[.slice (some ⟨g,o,none⟩) n c,.int .u8 d]) (by simp[results,Tryz.f60,go_sem]) rfl ⟨rfl,rfl⟩
theorem ac62(d g o n c:Nat)(h:Nat)(w:World)(q0:w.cell? ⟨h,0,none⟩=some (.slice (some ⟨g,o,none⟩) n c))(q1:w.cell? ⟨h,1,none⟩=some (.int .u8 d)): Calls Tryz.prog 62 #[.agg #[.int .i64 4,.iface 215 (.pointer (some ⟨h,0,none⟩))]] w fun e w'=>e=.returned (.agg #[.slice (some ⟨g,o,none⟩) n c,.int .u8 d])∧w'=(((w.alloc (.cells #[.int .i64 4,.iface 215 (.pointer (some ⟨h,0,none⟩))] 56)).alloc (.cells #[.slice (some ⟨g,o,none⟩) n c,.int .u8 d] 130)).alloc (.cells #[.int .i64 4,.iface 215 (.pointer (some ⟨h,0,none⟩))] 56)):=by
 have hh:h < w.heap.size:=World.block_lt_of_cell? w _ q0
 have hsf:=st_fl
 have h134:=ac134
 have p0:∀A B C,(((w.alloc A).alloc B).alloc C).cell? ⟨h,0,none⟩=some (.slice (some ⟨g,o,none⟩) n c):=fun A B C=>(((Fr.refl (fun _=>False) w).alloc A).alloc B |>.alloc C).cell q0 (fun h=>h)
 have p1:∀A B C,(((w.alloc A).alloc B).alloc C).cell? ⟨h,1,none⟩=some (.int .u8 d):=fun A B C=>(((Fr.refl (fun _=>False) w).alloc A).alloc B |>.alloc C).cell q1 (fun h=>h)
 have hta:∀(x:Value) (w:World),(Instr.typeAssert (.iface 215 x) 20 215 false).run Tryz.prog w=.ok x w:=fun _ _=>by kernel_rfl
 go_enter Tryz.func62,Tryz.ntmps62
 go_wp2_with (go_at_call 134;refine (h134 _ _ _).mono ?_;rintro e w1 ⟨rfl,rfl⟩)
 all_goals exact bodyPost_ret (v:=.agg #[.slice (some ⟨g,o,none⟩) n c,.int .u8 d]) (by simp[results,Tryz.f62,go_sem]) rfl ⟨rfl,rfl⟩
theorem ac64(d g o n c:Nat)(h:Nat)(w:World)(q0:w.cell? ⟨h,0,none⟩=some (.slice (some ⟨g,o,none⟩) n c))(q1:w.cell? ⟨h,1,none⟩=some (.int .u8 d)): Calls Tryz.prog 64 #[.agg #[.int .i64 5,.iface 217 (.pointer (some ⟨h,0,none⟩))]] w fun e w'=>e=.returned (.agg #[.slice (some ⟨g,o,none⟩) n c,.int .u8 d])∧w'=(((w.alloc (.cells #[.int .i64 5,.iface 217 (.pointer (some ⟨h,0,none⟩))] 56)).alloc (.cells #[.slice (some ⟨g,o,none⟩) n c,.int .u8 d] 134)).alloc (.cells #[.int .i64 5,.iface 217 (.pointer (some ⟨h,0,none⟩))] 56)):=by
 have hh:h < w.heap.size:=World.block_lt_of_cell? w _ q0
 have hsf:=st_fl
 have h134:=ac134
 have p0:∀A B C,(((w.alloc A).alloc B).alloc C).cell? ⟨h,0,none⟩=some (.slice (some ⟨g,o,none⟩) n c):=fun A B C=>(((Fr.refl (fun _=>False) w).alloc A).alloc B |>.alloc C).cell q0 (fun h=>h)
 have p1:∀A B C,(((w.alloc A).alloc B).alloc C).cell? ⟨h,1,none⟩=some (.int .u8 d):=fun A B C=>(((Fr.refl (fun _=>False) w).alloc A).alloc B |>.alloc C).cell q1 (fun h=>h)
 have hta:∀(x:Value) (w:World),(Instr.typeAssert (.iface 217 x) 20 217 false).run Tryz.prog w=.ok x w:=fun _ _=>by kernel_rfl
 go_enter Tryz.func64,Tryz.ntmps64
 go_wp2_with (go_at_call 134;refine (h134 _ _ _).mono ?_;rintro e w1 ⟨rfl,rfl⟩)
 all_goals exact bodyPost_ret (v:=.agg #[.slice (some ⟨g,o,none⟩) n c,.int .u8 d]) (by simp[results,Tryz.f64,go_sem]) rfl ⟨rfl,rfl⟩
theorem ac66(d g o n c:Nat)(h:Nat)(w:World)(q0:w.cell? ⟨h,0,none⟩=some (.slice (some ⟨g,o,none⟩) n c))(q1:w.cell? ⟨h,1,none⟩=some (.int .u8 d)): Calls Tryz.prog 66 #[.agg #[.int .i64 6,.iface 219 (.pointer (some ⟨h,0,none⟩))]] w fun e w'=>e=.returned (.agg #[.slice (some ⟨g,o,none⟩) n c,.int .u8 d])∧w'=(((w.alloc (.cells #[.int .i64 6,.iface 219 (.pointer (some ⟨h,0,none⟩))] 56)).alloc (.cells #[.slice (some ⟨g,o,none⟩) n c,.int .u8 d] 139)).alloc (.cells #[.int .i64 6,.iface 219 (.pointer (some ⟨h,0,none⟩))] 56)):=by
 have hh:h < w.heap.size:=World.block_lt_of_cell? w _ q0
 have hsf:=st_fl
 have h134:=ac134
 have p0:∀A B C,(((w.alloc A).alloc B).alloc C).cell? ⟨h,0,none⟩=some (.slice (some ⟨g,o,none⟩) n c):=fun A B C=>(((Fr.refl (fun _=>False) w).alloc A).alloc B |>.alloc C).cell q0 (fun h=>h)
 have p1:∀A B C,(((w.alloc A).alloc B).alloc C).cell? ⟨h,1,none⟩=some (.int .u8 d):=fun A B C=>(((Fr.refl (fun _=>False) w).alloc A).alloc B |>.alloc C).cell q1 (fun h=>h)
 have hta:∀(x:Value) (w:World),(Instr.typeAssert (.iface 219 x) 20 219 false).run Tryz.prog w=.ok x w:=fun _ _=>by kernel_rfl
 go_enter Tryz.func66,Tryz.ntmps66
 go_wp2_with (go_at_call 134;refine (h134 _ _ _).mono ?_;rintro e w1 ⟨rfl,rfl⟩)
 all_goals exact bodyPost_ret (v:=.agg #[.slice (some ⟨g,o,none⟩) n c,.int .u8 d]) (by simp[results,Tryz.f66,go_sem]) rfl ⟨rfl,rfl⟩
theorem ac141(d g o n c i:Nat)(x y z m d2:Nat)(b:Bool)(w:World)(hi:i < n)(h0:w.cell? ⟨g,o+i*6,none⟩=some (.float .f64 x))(h1:w.cell? ⟨g,o+i*6+1,none⟩=some (.float .f64 y))(h2:w.cell? ⟨g,o+i*6+2,none⟩=some (.float .f64 z))(h3:w.cell? ⟨g,o+i*6+3,none⟩=some (.float .f64 m))(h4:w.cell? ⟨g,o+i*6+4,none⟩=some (.int .u8 d2))(h5:w.cell? ⟨g,o+i*6+5,none⟩=some (.bool b)): Calls Tryz.prog 141 #[.agg #[.slice (some ⟨g,o,none⟩) n c,.int .u8 d],.int .i64 i] w fun e w'=>e=.returned (.agg #[.float .f64 x,.float .f64 y,.float .f64 z,.float .f64 m,.int .u8 d2,.bool b])∧w'=((w.alloc (.cells #[.slice (some ⟨g,o,none⟩) n c,.int .u8 d] 130)).alloc (.cells #[.float .f64 x,.float .f64 y,.float .f64 z,.float .f64 m,.int .u8 d2,.bool b] 115)):=by
 have hg:g < w.heap.size:=World.block_lt_of_cell? w _ h0
 have hsf:=st_fl
 go_enter Tryz.func141,Tryz.ntmps141
 go_wp2_with fail
 all_goals exact bodyPost_ret (v:=.agg #[.float .f64 x,.float .f64 y,.float .f64 z,.float .f64 m,.int .u8 d2,.bool b]) (by simp[results,Tryz.f141,go_sem]) rfl ⟨rfl,rfl⟩
theorem ac144(d g o n c i:Nat)(d2 g2 o2 n2 c2:Nat)(w:World)(hi:i < n)(h0:w.cell? ⟨g,o+i*2,none⟩=some (.int .u8 d2))(h1:w.cell? ⟨g,o+i*2+1,none⟩=some (.slice (some ⟨g2,o2,none⟩) n2 c2)): Calls Tryz.prog 144 #[.agg #[.slice (some ⟨g,o,none⟩) n c,.int .u8 d],.int .i64 i] w fun e w'=>e=.returned (.agg #[.int .u8 d2,.slice (some ⟨g2,o2,none⟩) n2 c2])∧w'=((w.alloc (.cells #[.slice (some ⟨g,o,none⟩) n c,.int .u8 d] 134)).alloc (.cells #[.int .u8 d2,.slice (some ⟨g2,o2,none⟩) n2 c2] 121)):=by
 have hg:g < w.heap.size:=World.block_lt_of_cell? w _ h0
 have hsf:=st_fl
 go_enter Tryz.func144,Tryz.ntmps144
 go_wp2_with fail
 all_goals exact bodyPost_ret (v:=.agg #[.int .u8 d2,.slice (some ⟨g2,o2,none⟩) n2 c2]) (by simp[results,Tryz.f144,go_sem]) rfl ⟨rfl,rfl⟩
theorem ac147(d g o n c i:Nat)(d2 g2 o2 n2 c2:Nat)(w:World)(hi:i < n)(h0:w.cell? ⟨g,o+i*2,none⟩=some (.slice (some ⟨g2,o2,none⟩) n2 c2))(h1:w.cell? ⟨g,o+i*2+1,none⟩=some (.int .u8 d2)): Calls Tryz.prog 147 #[.agg #[.slice (some ⟨g,o,none⟩) n c,.int .u8 d],.int .i64 i] w fun e w'=>e=.returned (.agg #[.slice (some ⟨g2,o2,none⟩) n2 c2,.int .u8 d2])∧w'=((w.alloc (.cells #[.slice (some ⟨g,o,none⟩) n c,.int .u8 d] 139)).alloc (.cells #[.slice (some ⟨g2,o2,none⟩) n2 c2,.int .u8 d2] 126)):=by
 have hg:g < w.heap.size:=World.block_lt_of_cell? w _ h0
 have hsf:=st_fl
 go_enter Tryz.func147,Tryz.ntmps147
 go_wp2_with fail
 all_goals exact bodyPost_ret (v:=.agg #[.slice (some ⟨g2,o2,none⟩) n2 c2,.int .u8 d2]) (by simp[results,Tryz.f147,go_sem]) rfl ⟨rfl,rfl⟩
theorem ac288(d g o n c:Nat)(w:World):Calls Tryz.prog 288 #[.agg #[.int .u8 d,.slice (some ⟨g,o,none⟩) n c],.int .u8 d] w fun e w'=>e=.returned (.agg #[.int .u8 d,.slice (some ⟨g,o,none⟩) n c])∧w'=((w.alloc (.cells #[.int .u8 d,.slice (some ⟨g,o,none⟩) n c] 119)).alloc (.cells #[.int .u8 d,.slice (some ⟨g,o,none⟩) n c] 119)):=by
 have hd:((d:Int) == (d:Int))=true:=by simp
 go_enter Tryz.func288,Tryz.ntmps288
 go_wp2_with fail
 all_goals exact bodyPost_ret (v:=.agg #[.int .u8 d,.slice (some ⟨g,o,none⟩) n c]) (by simp[results,Tryz.f288,go_sem]) rfl ⟨rfl,rfl⟩
theorem ac232(d g o n c:Nat)(w:World):Calls Tryz.prog 232 #[.agg #[.int .u8 d,.slice (some ⟨g,o,none⟩) n c],.int .u8 d] w fun e w'=>e=.returned (.agg #[.int .u8 d,.slice (some ⟨g,o,none⟩) n c])∧w'=((((w.alloc (.cells #[.int .u8 d,.slice (some ⟨g,o,none⟩) n c] 121)).alloc (.cells #[.int .u8 d,.slice (some ⟨g,o,none⟩) n c] 121)).alloc (.cells #[.int .u8 d,.slice (some ⟨g,o,none⟩) n c] 119)).alloc (.cells #[.int .u8 d,.slice (some ⟨g,o,none⟩) n c] 119)):=by
 go_enter Tryz.func232,Tryz.ntmps232
 go_wp2_with (go_at_call 288;refine (ac288 _ _ _ _ _ _).mono ?_;rintro e w1 ⟨rfl,rfl⟩)
 all_goals exact bodyPost_ret (v:=.agg #[.int .u8 d,.slice (some ⟨g,o,none⟩) n c]) (by simp[results,Tryz.f232,go_sem]) rfl ⟨rfl,rfl⟩
theorem ac231_0(w:World):Calls Tryz.prog 231 #[.int .u8 0] w fun e w'=>e=.returned (.int .i64 2)∧w'=w:=by
 have hix:∀w,(Instr.index 359 (.agg #[.int .i64 2,.int .i64 3,.int .i64 3,.int .i64 4]) (.int .u8 0)).run Tryz.prog w=.ok (.int .i64 2) w:=fun _=>by kernel_rfl
 go_enter Tryz.func231,Tryz.ntmps231
 go_wp2_with fail
 go_ret
 exact⟨rfl,rfl⟩
theorem ac231_1(w:World):Calls Tryz.prog 231 #[.int .u8 1] w fun e w'=>e=.returned (.int .i64 3)∧w'=w:=by
 have hix:∀w,(Instr.index 359 (.agg #[.int .i64 2,.int .i64 3,.int .i64 3,.int .i64 4]) (.int .u8 1)).run Tryz.prog w=.ok (.int .i64 3) w:=fun _=>by kernel_rfl
 go_enter Tryz.func231,Tryz.ntmps231
 go_wp2_with fail
 go_ret
 exact⟨rfl,rfl⟩
theorem ac231_2(w:World):Calls Tryz.prog 231 #[.int .u8 2] w fun e w'=>e=.returned (.int .i64 3)∧w'=w:=by
 have hix:∀w,(Instr.index 359 (.agg #[.int .i64 2,.int .i64 3,.int .i64 3,.int .i64 4]) (.int .u8 2)).run Tryz.prog w=.ok (.int .i64 3) w:=fun _=>by kernel_rfl
 go_enter Tryz.func231,Tryz.ntmps231
 go_wp2_with fail
 go_ret
 exact⟨rfl,rfl⟩
theorem ac231_3(w:World):Calls Tryz.prog 231 #[.int .u8 3] w fun e w'=>e=.returned (.int .i64 4)∧w'=w:=by
 have hix:∀w,(Instr.index 359 (.agg #[.int .i64 2,.int .i64 3,.int .i64 3,.int .i64 4]) (.int .u8 3)).run Tryz.prog w=.ok (.int .i64 4) w:=fun _=>by kernel_rfl
 go_enter Tryz.func231,Tryz.ntmps231
 go_wp2_with fail
 go_ret
 exact⟨rfl,rfl⟩
theorem ac231(d:Nat)(hd:d≤3)(w:World):Calls Tryz.prog 231 #[.int .u8 d] w fun e w'=>e=.returned (.int .i64 (wd d:Nat))∧w'=w:=by
 have hd':d=0∨d=1∨d=2∨d=3:=by omega
 rcases hd' with rfl|rfl|rfl|rfl
 ·exact ac231_0 w
 ·exact ac231_1 w
 ·exact ac231_2 w
 ·exact ac231_3 w
theorem ac70_0(w:World):Calls Tryz.prog 70 #[.int .u8 0] w fun e w'=>e=.returned (.bool false)∧w'=w:=by
 have e1:bits .and .u8 0 1=0:=by decide
 go_enter Tryz.func70,Tryz.ntmps70
 go_wp2_with fail
 go_ret
 exact⟨rfl,rfl⟩
theorem ac70_1(w:World):Calls Tryz.prog 70 #[.int .u8 1] w fun e w'=>e=.returned (.bool true)∧w'=w:=by
 have e1:bits .and .u8 1 1=1:=by decide
 go_enter Tryz.func70,Tryz.ntmps70
 go_wp2_with fail
 go_ret
 exact⟨rfl,rfl⟩
theorem ac70_2(w:World):Calls Tryz.prog 70 #[.int .u8 2] w fun e w'=>e=.returned (.bool false)∧w'=w:=by
 have e1:bits .and .u8 2 1=0:=by decide
 go_enter Tryz.func70,Tryz.ntmps70
 go_wp2_with fail
 go_ret
 exact⟨rfl,rfl⟩
theorem ac70_3(w:World):Calls Tryz.prog 70 #[.int .u8 3] w fun e w'=>e=.returned (.bool true)∧w'=w:=by
 have e1:bits .and .u8 3 1=1:=by decide
 go_enter Tryz.func70,Tryz.ntmps70
 go_wp2_with fail
 go_ret
 exact⟨rfl,rfl⟩
theorem ac70(d:Nat)(hd:d≤3)(w:World):Calls Tryz.prog 70 #[.int .u8 d] w fun e w'=>e=.returned (.bool (d % 2 == 1))∧w'=w:=by
 have hd':d=0∨d=1∨d=2∨d=3:=by omega
 rcases hd' with rfl|rfl|rfl|rfl
 ·exact ac70_0 w
 ·exact ac70_1 w
 ·exact ac70_2 w
 ·exact ac70_3 w
theorem ac71_0(w:World):Calls Tryz.prog 71 #[.int .u8 0] w fun e w'=>e=.returned (.bool false)∧w'=w:=by
 have e1:bits .and .u8 0 2=0:=by decide
 go_enter Tryz.func71,Tryz.ntmps71
 go_wp2_with fail
 go_ret
 exact⟨rfl,rfl⟩
theorem ac71_1(w:World):Calls Tryz.prog 71 #[.int .u8 1] w fun e w'=>e=.returned (.bool false)∧w'=w:=by
 have e1:bits .and .u8 1 2=0:=by decide
 go_enter Tryz.func71,Tryz.ntmps71
 go_wp2_with fail
 go_ret
 exact⟨rfl,rfl⟩
theorem ac71_2(w:World):Calls Tryz.prog 71 #[.int .u8 2] w fun e w'=>e=.returned (.bool true)∧w'=w:=by
 have e1:bits .and .u8 2 2=2:=by decide
 go_enter Tryz.func71,Tryz.ntmps71
 go_wp2_with fail
 go_ret
 exact⟨rfl,rfl⟩
theorem ac71_3(w:World):Calls Tryz.prog 71 #[.int .u8 3] w fun e w'=>e=.returned (.bool true)∧w'=w:=by
 have e1:bits .and .u8 3 2=2:=by decide
 go_enter Tryz.func71,Tryz.ntmps71
 go_wp2_with fail
 go_ret
 exact⟨rfl,rfl⟩
theorem ac71(d:Nat)(hd:d≤3)(w:World):Calls Tryz.prog 71 #[.int .u8 d] w fun e w'=>e=.returned (.bool (d / 2 % 2 == 1))∧w'=w:=by
 have hd':d=0∨d=1∨d=2∨d=3:=by omega
 rcases hd' with rfl|rfl|rfl|rfl
 ·exact ac71_0 w
 ·exact ac71_1 w
 ·exact ac71_2 w
 ·exact ac71_3 w
theorem ac193_0(g o n c:Nat)(w:World)(hn:n % 2=0)(hl:n≤100000):Calls Tryz.prog 193 #[.slice (some ⟨g,o,none⟩) n c,.int .u8 0] w fun e w'=>e=.returned (.agg #[.int .u8 0,.slice (some ⟨g,o,none⟩) n c])∧w'=w.alloc (.cells #[.int .u8 0,.slice (some ⟨g,o,none⟩) n c] 119):=by
 have hi:(n:Int) % 2=0:=by omega
 have hti:(n:Int).tmod 2=0:=by rw[Int.tmod_eq_emod_of_nonneg (by omega)];exact hi
 have hw:wrap64 ((n:Int) % 2)=0:=by rw[hi];simp[wrap64]
 clear hn
 have h231:=ac231_0
 go_enter Tryz.func193,Tryz.ntmps193
 go_wp2_with (go_at_call 231;refine (h231 _).mono ?_;rintro e w1 ⟨rfl,rfl⟩)
 exact bodyPost_ret (v:=.agg #[.int .u8 0,.slice (some ⟨g,o,none⟩) n c]) (by simp[results,Tryz.f193,go_sem]) rfl ⟨rfl,rfl⟩
theorem ac156_0(g o n c q:Nat)(w:World)(hn:n=q*2)(hl:n≤100000):Calls Tryz.prog 156 #[.agg #[.int .u8 0,.slice (some ⟨g,o,none⟩) n c]] w fun e w'=>e=.returned (.int .i64 q)∧∃nq,w'=(w.alloc (.cells #[.int .u8 0,.slice (some ⟨g,o,none⟩) n c] 119)).drewN nq:=by
 have hm:∀t w,(binOp .quo t (.int .i64 n) (.int .i64 2)).run Tryz.prog w=.ok (.int .i64 q) w:=fun t w=>by
  simp[binOp,go_sem,IntKind.wrap,IntKind.bits,IntKind.signed]
  omega
 have hw:wrap64 ((n:Int) / 2)=(q:Int):=by
  have:(n:Int) / 2=(q:Int):=by omega
  rw[this];simp[wrap64];omega
 have hi:(n:Int) / 2=(q:Int):=by omega
 clear hn
 have h231:=ac231_0
 go_enter Tryz.func156,Tryz.ntmps156
 go_upto_region 1 with fail
 go_quiet ((go_at_call 231;exact Calls.quiet_of_same (h231 _)))
 go_wp2_with fail
 go_ret
 exact⟨by first|rfl|(rw[hw]),_,rfl⟩
theorem ac193_1(g o n c:Nat)(w:World)(hn:n % 3=0)(hl:n≤100000):Calls Tryz.prog 193 #[.slice (some ⟨g,o,none⟩) n c,.int .u8 1] w fun e w'=>e=.returned (.agg #[.int .u8 1,.slice (some ⟨g,o,none⟩) n c])∧w'=w.alloc (.cells #[.int .u8 1,.slice (some ⟨g,o,none⟩) n c] 119):=by
 have hi:(n:Int) % 3=0:=by omega
 have hti:(n:Int).tmod 3=0:=by rw[Int.tmod_eq_emod_of_nonneg (by omega)];exact hi
 have hw:wrap64 ((n:Int) % 3)=0:=by rw[hi];simp[wrap64]
 clear hn
 have h231:=ac231_1
 go_enter Tryz.func193,Tryz.ntmps193
 go_wp2_with (go_at_call 231;refine (h231 _).mono ?_;rintro e w1 ⟨rfl,rfl⟩)
 exact bodyPost_ret (v:=.agg #[.int .u8 1,.slice (some ⟨g,o,none⟩) n c]) (by simp[results,Tryz.f193,go_sem]) rfl ⟨rfl,rfl⟩
theorem ac156_1(g o n c q:Nat)(w:World)(hn:n=q*3)(hl:n≤100000):Calls Tryz.prog 156 #[.agg #[.int .u8 1,.slice (some ⟨g,o,none⟩) n c]] w fun e w'=>e=.returned (.int .i64 q)∧∃nq,w'=(w.alloc (.cells #[.int .u8 1,.slice (some ⟨g,o,none⟩) n c] 119)).drewN nq:=by
 have hm:∀t w,(binOp .quo t (.int .i64 n) (.int .i64 3)).run Tryz.prog w=.ok (.int .i64 q) w:=fun t w=>by
  simp[binOp,go_sem,IntKind.wrap,IntKind.bits,IntKind.signed]
  omega
 have hw:wrap64 ((n:Int) / 3)=(q:Int):=by
  have:(n:Int) / 3=(q:Int):=by omega
  rw[this];simp[wrap64];omega
 have hi:(n:Int) / 3=(q:Int):=by omega
 clear hn
 have h231:=ac231_1
 go_enter Tryz.func156,Tryz.ntmps156
 go_upto_region 1 with fail
 go_quiet ((go_at_call 231;exact Calls.quiet_of_same (h231 _)))
 go_wp2_with fail
 go_ret
 exact⟨by first|rfl|(rw[hw]),_,rfl⟩
theorem ac193_2(g o n c:Nat)(w:World)(hn:n % 3=0)(hl:n≤100000):Calls Tryz.prog 193 #[.slice (some ⟨g,o,none⟩) n c,.int .u8 2] w fun e w'=>e=.returned (.agg #[.int .u8 2,.slice (some ⟨g,o,none⟩) n c])∧w'=w.alloc (.cells #[.int .u8 2,.slice (some ⟨g,o,none⟩) n c] 119):=by
 have hi:(n:Int) % 3=0:=by omega
 have hti:(n:Int).tmod 3=0:=by rw[Int.tmod_eq_emod_of_nonneg (by omega)];exact hi
 have hw:wrap64 ((n:Int) % 3)=0:=by rw[hi];simp[wrap64]
 clear hn
 have h231:=ac231_2
 go_enter Tryz.func193,Tryz.ntmps193
 go_wp2_with (go_at_call 231;refine (h231 _).mono ?_;rintro e w1 ⟨rfl,rfl⟩)
 exact bodyPost_ret (v:=.agg #[.int .u8 2,.slice (some ⟨g,o,none⟩) n c]) (by simp[results,Tryz.f193,go_sem]) rfl ⟨rfl,rfl⟩
theorem ac156_2(g o n c q:Nat)(w:World)(hn:n=q*3)(hl:n≤100000):Calls Tryz.prog 156 #[.agg #[.int .u8 2,.slice (some ⟨g,o,none⟩) n c]] w fun e w'=>e=.returned (.int .i64 q)∧∃nq,w'=(w.alloc (.cells #[.int .u8 2,.slice (some ⟨g,o,none⟩) n c] 119)).drewN nq:=by
 have hm:∀t w,(binOp .quo t (.int .i64 n) (.int .i64 3)).run Tryz.prog w=.ok (.int .i64 q) w:=fun t w=>by
  simp[binOp,go_sem,IntKind.wrap,IntKind.bits,IntKind.signed]
  omega
 have hw:wrap64 ((n:Int) / 3)=(q:Int):=by
  have:(n:Int) / 3=(q:Int):=by omega
  rw[this];simp[wrap64];omega
 have hi:(n:Int) / 3=(q:Int):=by omega
 clear hn
 have h231:=ac231_2
 go_enter Tryz.func156,Tryz.ntmps156
 go_upto_region 1 with fail
 go_quiet ((go_at_call 231;exact Calls.quiet_of_same (h231 _)))
 go_wp2_with fail
 go_ret
 exact⟨by first|rfl|(rw[hw]),_,rfl⟩
theorem ac193_3(g o n c:Nat)(w:World)(hn:n % 4=0)(hl:n≤100000):Calls Tryz.prog 193 #[.slice (some ⟨g,o,none⟩) n c,.int .u8 3] w fun e w'=>e=.returned (.agg #[.int .u8 3,.slice (some ⟨g,o,none⟩) n c])∧w'=w.alloc (.cells #[.int .u8 3,.slice (some ⟨g,o,none⟩) n c] 119):=by
 have hi:(n:Int) % 4=0:=by omega
 have hti:(n:Int).tmod 4=0:=by rw[Int.tmod_eq_emod_of_nonneg (by omega)];exact hi
 have hw:wrap64 ((n:Int) % 4)=0:=by rw[hi];simp[wrap64]
 clear hn
 have h231:=ac231_3
 go_enter Tryz.func193,Tryz.ntmps193
 go_wp2_with (go_at_call 231;refine (h231 _).mono ?_;rintro e w1 ⟨rfl,rfl⟩)
 exact bodyPost_ret (v:=.agg #[.int .u8 3,.slice (some ⟨g,o,none⟩) n c]) (by simp[results,Tryz.f193,go_sem]) rfl ⟨rfl,rfl⟩
theorem ac156_3(g o n c q:Nat)(w:World)(hn:n=q*4)(hl:n≤100000):Calls Tryz.prog 156 #[.agg #[.int .u8 3,.slice (some ⟨g,o,none⟩) n c]] w fun e w'=>e=.returned (.int .i64 q)∧∃nq,w'=(w.alloc (.cells #[.int .u8 3,.slice (some ⟨g,o,none⟩) n c] 119)).drewN nq:=by
 have hm:∀t w,(binOp .quo t (.int .i64 n) (.int .i64 4)).run Tryz.prog w=.ok (.int .i64 q) w:=fun t w=>by
  simp[binOp,go_sem,IntKind.wrap,IntKind.bits,IntKind.signed]
  omega
 have hw:wrap64 ((n:Int) / 4)=(q:Int):=by
  have:(n:Int) / 4=(q:Int):=by omega
  rw[this];simp[wrap64];omega
 have hi:(n:Int) / 4=(q:Int):=by omega
 clear hn
 have h231:=ac231_3
 go_enter Tryz.func156,Tryz.ntmps156
 go_upto_region 1 with fail
 go_quiet ((go_at_call 231;exact Calls.quiet_of_same (h231 _)))
 go_wp2_with fail
 go_ret
 exact⟨by first|rfl|(rw[hw]),_,rfl⟩
end Go.Proofs.YtnjjgbcmjnfijaaGreatDoor
