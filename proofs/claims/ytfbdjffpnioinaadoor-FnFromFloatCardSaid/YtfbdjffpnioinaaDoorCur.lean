/- The table of currencies (pub/money's currencyOf), walked: for every text the call returns the row of that code in new memory, or nil and false. No condition on the text. -/
import Derived.Test.YtfbdjffpnioinaaDoorProg
import Derived.WalkKit
import Derived.WalkSpells
import Derived.KernelRfl
namespace Go.Proofs.YtfbdjffpnioinaaDoor
open Go.RowKit

structure Cur where
  code : ByteArray
  num : ByteArray
  frac : Int
  graph : ByteArray
  tmpl : ByteArray
  dec : ByteArray
  thou : ByteArray

def Cur.cells (c : Cur) : Array Value := #[.string c.code, .string c.num, .int .i64 c.frac, .string c.graph, .string c.tmpl, .string c.dec, .string c.thou]

def curRows : List (String × String × Cur) := [
  ("currency.go:21", "currency.go:22", ⟨⟨#[65, 69, 68]⟩, ⟨#[55, 56, 52]⟩, 2, ⟨#[46, 216, 175, 46, 216, 165]⟩, ⟨#[49, 32, 36]⟩, ⟨#[46]⟩, ⟨#[44]⟩⟩),
  ("currency.go:23", "currency.go:24", ⟨⟨#[65, 70, 78]⟩, ⟨#[57, 55, 49]⟩, 2, ⟨#[216, 139]⟩, ⟨#[49, 32, 36]⟩, ⟨#[46]⟩, ⟨#[44]⟩⟩),
  ("currency.go:25", "currency.go:26", ⟨⟨#[65, 76, 76]⟩, ⟨#[48, 48, 56]⟩, 2, ⟨#[76]⟩, ⟨#[36, 49]⟩, ⟨#[46]⟩, ⟨#[44]⟩⟩),
  ("currency.go:27", "currency.go:28", ⟨⟨#[65, 77, 68]⟩, ⟨#[48, 53, 49]⟩, 2, ⟨#[213, 164, 214, 128, 46]⟩, ⟨#[49, 32, 36]⟩, ⟨#[46]⟩, ⟨#[44]⟩⟩),
  ("currency.go:29", "currency.go:30", ⟨⟨#[65, 78, 71]⟩, ⟨#[53, 51, 50]⟩, 2, ⟨#[198, 146]⟩, ⟨#[36, 49]⟩, ⟨#[44]⟩, ⟨#[46]⟩⟩),
  ("currency.go:31", "currency.go:32", ⟨⟨#[65, 79, 65]⟩, ⟨#[57, 55, 51]⟩, 2, ⟨#[75, 122]⟩, ⟨#[49, 36]⟩, ⟨#[46]⟩, ⟨#[44]⟩⟩),
  ("currency.go:33", "currency.go:34", ⟨⟨#[65, 82, 83]⟩, ⟨#[48, 51, 50]⟩, 2, ⟨#[36]⟩, ⟨#[36, 49]⟩, ⟨#[44]⟩, ⟨#[46]⟩⟩),
  ("currency.go:35", "currency.go:36", ⟨⟨#[65, 85, 68]⟩, ⟨#[48, 51, 54]⟩, 2, ⟨#[65, 36]⟩, ⟨#[36, 49]⟩, ⟨#[46]⟩, ⟨#[44]⟩⟩),
  ("currency.go:37", "currency.go:38", ⟨⟨#[65, 87, 71]⟩, ⟨#[53, 51, 51]⟩, 2, ⟨#[198, 146]⟩, ⟨#[49, 36]⟩, ⟨#[46]⟩, ⟨#[44]⟩⟩),
  ("currency.go:39", "currency.go:40", ⟨⟨#[65, 90, 78]⟩, ⟨#[57, 52, 52]⟩, 2, ⟨#[226, 130, 188]⟩, ⟨#[36, 49]⟩, ⟨#[46]⟩, ⟨#[44]⟩⟩),
  ("currency.go:41", "currency.go:42", ⟨⟨#[66, 65, 77]⟩, ⟨#[57, 55, 55]⟩, 2, ⟨#[75, 77]⟩, ⟨#[36, 49]⟩, ⟨#[46]⟩, ⟨#[44]⟩⟩),
  ("currency.go:43", "currency.go:44", ⟨⟨#[66, 66, 68]⟩, ⟨#[48, 53, 50]⟩, 2, ⟨#[36]⟩, ⟨#[36, 49]⟩, ⟨#[46]⟩, ⟨#[44]⟩⟩),
  ("currency.go:45", "currency.go:46", ⟨⟨#[66, 68, 84]⟩, ⟨#[48, 53, 48]⟩, 2, ⟨#[224, 167, 179]⟩, ⟨#[36, 49]⟩, ⟨#[46]⟩, ⟨#[44]⟩⟩),
  ("currency.go:47", "currency.go:48", ⟨⟨#[66, 71, 78]⟩, ⟨#[57, 55, 53]⟩, 2, ⟨#[208, 187, 208, 178]⟩, ⟨#[36, 49]⟩, ⟨#[46]⟩, ⟨#[44]⟩⟩),
  ("currency.go:49", "currency.go:50", ⟨⟨#[66, 72, 68]⟩, ⟨#[48, 52, 56]⟩, 3, ⟨#[46, 216, 175, 46, 216, 168]⟩, ⟨#[49, 32, 36]⟩, ⟨#[46]⟩, ⟨#[44]⟩⟩),
  ("currency.go:51", "currency.go:52", ⟨⟨#[66, 73, 70]⟩, ⟨#[49, 48, 56]⟩, 0, ⟨#[70, 114]⟩, ⟨#[49, 36]⟩, ⟨#[46]⟩, ⟨#[44]⟩⟩),
  ("currency.go:53", "currency.go:54", ⟨⟨#[66, 77, 68]⟩, ⟨#[48, 54, 48]⟩, 2, ⟨#[36]⟩, ⟨#[36, 49]⟩, ⟨#[46]⟩, ⟨#[44]⟩⟩),
  ("currency.go:55", "currency.go:56", ⟨⟨#[66, 78, 68]⟩, ⟨#[48, 57, 54]⟩, 2, ⟨#[36]⟩, ⟨#[36, 49]⟩, ⟨#[46]⟩, ⟨#[44]⟩⟩),
  ("currency.go:57", "currency.go:58", ⟨⟨#[66, 79, 66]⟩, ⟨#[48, 54, 56]⟩, 2, ⟨#[66, 115, 46]⟩, ⟨#[36, 49]⟩, ⟨#[46]⟩, ⟨#[44]⟩⟩),
  ("currency.go:59", "currency.go:60", ⟨⟨#[66, 82, 76]⟩, ⟨#[57, 56, 54]⟩, 2, ⟨#[82, 36]⟩, ⟨#[36, 49]⟩, ⟨#[44]⟩, ⟨#[46]⟩⟩),
  ("currency.go:61", "currency.go:62", ⟨⟨#[66, 83, 68]⟩, ⟨#[48, 52, 52]⟩, 2, ⟨#[36]⟩, ⟨#[36, 49]⟩, ⟨#[46]⟩, ⟨#[44]⟩⟩),
  ("currency.go:63", "currency.go:64", ⟨⟨#[66, 84, 78]⟩, ⟨#[48, 54, 52]⟩, 2, ⟨#[78, 117, 46]⟩, ⟨#[49, 36]⟩, ⟨#[46]⟩, ⟨#[44]⟩⟩),
  ("currency.go:65", "currency.go:66", ⟨⟨#[66, 87, 80]⟩, ⟨#[48, 55, 50]⟩, 2, ⟨#[80]⟩, ⟨#[36, 49]⟩, ⟨#[46]⟩, ⟨#[44]⟩⟩),
  ("currency.go:67", "currency.go:68", ⟨⟨#[66, 89, 78]⟩, ⟨#[57, 51, 51]⟩, 2, ⟨#[112, 46]⟩, ⟨#[49, 32, 36]⟩, ⟨#[44]⟩, ⟨#[32]⟩⟩),
  ("currency.go:69", "currency.go:70", ⟨⟨#[66, 89, 82]⟩, ⟨#[]⟩, 0, ⟨#[112, 46]⟩, ⟨#[49, 32, 36]⟩, ⟨#[44]⟩, ⟨#[32]⟩⟩),
  ("currency.go:71", "currency.go:72", ⟨⟨#[66, 90, 68]⟩, ⟨#[48, 56, 52]⟩, 2, ⟨#[66, 90, 36]⟩, ⟨#[36, 49]⟩, ⟨#[46]⟩, ⟨#[44]⟩⟩),
  ("currency.go:73", "currency.go:74", ⟨⟨#[67, 65, 68]⟩, ⟨#[49, 50, 52]⟩, 2, ⟨#[36]⟩, ⟨#[36, 49]⟩, ⟨#[46]⟩, ⟨#[44]⟩⟩),
  ("currency.go:75", "currency.go:76", ⟨⟨#[67, 68, 70]⟩, ⟨#[57, 55, 54]⟩, 2, ⟨#[70, 67]⟩, ⟨#[49, 36]⟩, ⟨#[46]⟩, ⟨#[44]⟩⟩),
  ("currency.go:77", "currency.go:78", ⟨⟨#[67, 72, 70]⟩, ⟨#[55, 53, 54]⟩, 2, ⟨#[67, 72, 70]⟩, ⟨#[49, 32, 36]⟩, ⟨#[46]⟩, ⟨#[44]⟩⟩),
  ("currency.go:79", "currency.go:80", ⟨⟨#[67, 76, 70]⟩, ⟨#[57, 57, 48]⟩, 4, ⟨#[85, 70]⟩, ⟨#[36, 49]⟩, ⟨#[44]⟩, ⟨#[46]⟩⟩),
  ("currency.go:81", "currency.go:82", ⟨⟨#[67, 76, 80]⟩, ⟨#[49, 53, 50]⟩, 0, ⟨#[36]⟩, ⟨#[36, 49]⟩, ⟨#[44]⟩, ⟨#[46]⟩⟩),
  ("currency.go:83", "currency.go:84", ⟨⟨#[67, 78, 89]⟩, ⟨#[49, 53, 54]⟩, 2, ⟨#[229, 133, 131]⟩, ⟨#[49, 32, 36]⟩, ⟨#[46]⟩, ⟨#[44]⟩⟩),
  ("currency.go:85", "currency.go:86", ⟨⟨#[67, 79, 80]⟩, ⟨#[49, 55, 48]⟩, 2, ⟨#[36]⟩, ⟨#[36, 49]⟩, ⟨#[44]⟩, ⟨#[46]⟩⟩),
  ("currency.go:87", "currency.go:88", ⟨⟨#[67, 82, 67]⟩, ⟨#[49, 56, 56]⟩, 2, ⟨#[226, 130, 161]⟩, ⟨#[36, 49]⟩, ⟨#[46]⟩, ⟨#[44]⟩⟩),
  ("currency.go:89", "currency.go:90", ⟨⟨#[67, 85, 67]⟩, ⟨#[57, 51, 49]⟩, 2, ⟨#[36]⟩, ⟨#[49, 36]⟩, ⟨#[46]⟩, ⟨#[44]⟩⟩),
  ("currency.go:91", "currency.go:92", ⟨⟨#[67, 85, 80]⟩, ⟨#[49, 57, 50]⟩, 2, ⟨#[36, 77, 78]⟩, ⟨#[36, 49]⟩, ⟨#[46]⟩, ⟨#[44]⟩⟩),
  ("currency.go:93", "currency.go:94", ⟨⟨#[67, 86, 69]⟩, ⟨#[49, 51, 50]⟩, 2, ⟨#[36]⟩, ⟨#[49, 36]⟩, ⟨#[46]⟩, ⟨#[44]⟩⟩),
  ("currency.go:95", "currency.go:96", ⟨⟨#[67, 90, 75]⟩, ⟨#[50, 48, 51]⟩, 2, ⟨#[75, 196, 141]⟩, ⟨#[49, 32, 36]⟩, ⟨#[46]⟩, ⟨#[44]⟩⟩),
  ("currency.go:97", "currency.go:98", ⟨⟨#[68, 74, 70]⟩, ⟨#[50, 54, 50]⟩, 0, ⟨#[70, 100, 106]⟩, ⟨#[49, 32, 36]⟩, ⟨#[46]⟩, ⟨#[44]⟩⟩),
  ("currency.go:99", "currency.go:100", ⟨⟨#[68, 75, 75]⟩, ⟨#[50, 48, 56]⟩, 2, ⟨#[107, 114]⟩, ⟨#[36, 32, 49]⟩, ⟨#[44]⟩, ⟨#[46]⟩⟩),
  ("currency.go:101", "currency.go:102", ⟨⟨#[68, 79, 80]⟩, ⟨#[50, 49, 52]⟩, 2, ⟨#[82, 68, 36]⟩, ⟨#[36, 49]⟩, ⟨#[46]⟩, ⟨#[44]⟩⟩),
  ("currency.go:103", "currency.go:104", ⟨⟨#[68, 90, 68]⟩, ⟨#[48, 49, 50]⟩, 2, ⟨#[46, 216, 175, 46, 216, 172]⟩, ⟨#[49, 32, 36]⟩, ⟨#[46]⟩, ⟨#[44]⟩⟩),
  ("currency.go:105", "currency.go:106", ⟨⟨#[69, 69, 75]⟩, ⟨#[]⟩, 2, ⟨#[107, 114]⟩, ⟨#[36, 49]⟩, ⟨#[46]⟩, ⟨#[44]⟩⟩),
  ("currency.go:107", "currency.go:108", ⟨⟨#[69, 71, 80]⟩, ⟨#[56, 49, 56]⟩, 2, ⟨#[194, 163]⟩, ⟨#[36, 49]⟩, ⟨#[46]⟩, ⟨#[44]⟩⟩),
  ("currency.go:109", "currency.go:110", ⟨⟨#[69, 82, 78]⟩, ⟨#[50, 51, 50]⟩, 2, ⟨#[78, 102, 107]⟩, ⟨#[49, 32, 36]⟩, ⟨#[46]⟩, ⟨#[44]⟩⟩),
  ("currency.go:111", "currency.go:112", ⟨⟨#[69, 84, 66]⟩, ⟨#[50, 51, 48]⟩, 2, ⟨#[66, 114]⟩, ⟨#[49, 32, 36]⟩, ⟨#[46]⟩, ⟨#[44]⟩⟩),
  ("currency.go:113", "currency.go:114", ⟨⟨#[69, 85, 82]⟩, ⟨#[57, 55, 56]⟩, 2, ⟨#[226, 130, 172]⟩, ⟨#[36, 49]⟩, ⟨#[46]⟩, ⟨#[44]⟩⟩),
  ("currency.go:115", "currency.go:116", ⟨⟨#[70, 74, 68]⟩, ⟨#[50, 52, 50]⟩, 2, ⟨#[36]⟩, ⟨#[36, 49]⟩, ⟨#[46]⟩, ⟨#[44]⟩⟩),
  ("currency.go:117", "currency.go:118", ⟨⟨#[70, 75, 80]⟩, ⟨#[50, 51, 56]⟩, 2, ⟨#[194, 163]⟩, ⟨#[36, 49]⟩, ⟨#[46]⟩, ⟨#[44]⟩⟩),
  ("currency.go:119", "currency.go:120", ⟨⟨#[71, 66, 80]⟩, ⟨#[56, 50, 54]⟩, 2, ⟨#[194, 163]⟩, ⟨#[36, 49]⟩, ⟨#[46]⟩, ⟨#[44]⟩⟩),
  ("currency.go:121", "currency.go:122", ⟨⟨#[71, 69, 76]⟩, ⟨#[57, 56, 49]⟩, 2, ⟨#[225, 131, 154]⟩, ⟨#[49, 32, 36]⟩, ⟨#[46]⟩, ⟨#[44]⟩⟩),
  ("currency.go:123", "currency.go:124", ⟨⟨#[71, 71, 80]⟩, ⟨#[]⟩, 2, ⟨#[194, 163]⟩, ⟨#[36, 49]⟩, ⟨#[46]⟩, ⟨#[44]⟩⟩),
  ("currency.go:125", "currency.go:126", ⟨⟨#[71, 72, 67]⟩, ⟨#[]⟩, 2, ⟨#[194, 162]⟩, ⟨#[36, 49]⟩, ⟨#[46]⟩, ⟨#[44]⟩⟩),
  ("currency.go:127", "currency.go:128", ⟨⟨#[71, 72, 83]⟩, ⟨#[57, 51, 54]⟩, 2, ⟨#[226, 130, 181]⟩, ⟨#[36, 49]⟩, ⟨#[46]⟩, ⟨#[44]⟩⟩),
  ("currency.go:129", "currency.go:130", ⟨⟨#[71, 73, 80]⟩, ⟨#[50, 57, 50]⟩, 2, ⟨#[194, 163]⟩, ⟨#[36, 49]⟩, ⟨#[46]⟩, ⟨#[44]⟩⟩),
  ("currency.go:131", "currency.go:132", ⟨⟨#[71, 77, 68]⟩, ⟨#[50, 55, 48]⟩, 2, ⟨#[68]⟩, ⟨#[49, 32, 36]⟩, ⟨#[46]⟩, ⟨#[44]⟩⟩),
  ("currency.go:133", "currency.go:134", ⟨⟨#[71, 78, 70]⟩, ⟨#[51, 50, 52]⟩, 0, ⟨#[70, 71]⟩, ⟨#[49, 32, 36]⟩, ⟨#[46]⟩, ⟨#[44]⟩⟩),
  ("currency.go:135", "currency.go:136", ⟨⟨#[71, 84, 81]⟩, ⟨#[51, 50, 48]⟩, 2, ⟨#[81]⟩, ⟨#[36, 49]⟩, ⟨#[46]⟩, ⟨#[44]⟩⟩),
  ("currency.go:137", "currency.go:138", ⟨⟨#[71, 89, 68]⟩, ⟨#[51, 50, 56]⟩, 2, ⟨#[36]⟩, ⟨#[36, 49]⟩, ⟨#[46]⟩, ⟨#[44]⟩⟩),
  ("currency.go:139", "currency.go:140", ⟨⟨#[72, 75, 68]⟩, ⟨#[51, 52, 52]⟩, 2, ⟨#[72, 75, 36]⟩, ⟨#[36, 49]⟩, ⟨#[46]⟩, ⟨#[44]⟩⟩),
  ("currency.go:141", "currency.go:142", ⟨⟨#[72, 78, 76]⟩, ⟨#[51, 52, 48]⟩, 2, ⟨#[76]⟩, ⟨#[36, 49]⟩, ⟨#[46]⟩, ⟨#[44]⟩⟩),
  ("currency.go:143", "currency.go:144", ⟨⟨#[72, 82, 75]⟩, ⟨#[49, 57, 49]⟩, 2, ⟨#[107, 110]⟩, ⟨#[49, 32, 36]⟩, ⟨#[44]⟩, ⟨#[46]⟩⟩),
  ("currency.go:145", "currency.go:146", ⟨⟨#[72, 84, 71]⟩, ⟨#[51, 51, 50]⟩, 2, ⟨#[71]⟩, ⟨#[49, 32, 36]⟩, ⟨#[44]⟩, ⟨#[46]⟩⟩),
  ("currency.go:147", "currency.go:148", ⟨⟨#[72, 85, 70]⟩, ⟨#[51, 52, 56]⟩, 2, ⟨#[70, 116]⟩, ⟨#[49, 32, 36]⟩, ⟨#[44]⟩, ⟨#[46]⟩⟩),
  ("currency.go:149", "currency.go:150", ⟨⟨#[73, 68, 82]⟩, ⟨#[51, 54, 48]⟩, 2, ⟨#[82, 112]⟩, ⟨#[36, 49]⟩, ⟨#[44]⟩, ⟨#[46]⟩⟩),
  ("currency.go:151", "currency.go:152", ⟨⟨#[73, 76, 83]⟩, ⟨#[51, 55, 54]⟩, 2, ⟨#[226, 130, 170]⟩, ⟨#[36, 49]⟩, ⟨#[46]⟩, ⟨#[44]⟩⟩),
  ("currency.go:153", "currency.go:154", ⟨⟨#[73, 77, 80]⟩, ⟨#[]⟩, 2, ⟨#[194, 163]⟩, ⟨#[36, 49]⟩, ⟨#[46]⟩, ⟨#[44]⟩⟩),
  ("currency.go:155", "currency.go:156", ⟨⟨#[73, 78, 82]⟩, ⟨#[51, 53, 54]⟩, 2, ⟨#[226, 130, 185]⟩, ⟨#[36, 49]⟩, ⟨#[46]⟩, ⟨#[44]⟩⟩),
  ("currency.go:157", "currency.go:158", ⟨⟨#[73, 81, 68]⟩, ⟨#[51, 54, 56]⟩, 3, ⟨#[46, 216, 175, 46, 216, 185]⟩, ⟨#[49, 32, 36]⟩, ⟨#[46]⟩, ⟨#[44]⟩⟩),
  ("currency.go:159", "currency.go:160", ⟨⟨#[73, 82, 82]⟩, ⟨#[51, 54, 52]⟩, 2, ⟨#[239, 183, 188]⟩, ⟨#[49, 32, 36]⟩, ⟨#[46]⟩, ⟨#[44]⟩⟩),
  ("currency.go:161", "currency.go:162", ⟨⟨#[73, 83, 75]⟩, ⟨#[51, 53, 50]⟩, 0, ⟨#[107, 114]⟩, ⟨#[36, 49]⟩, ⟨#[44]⟩, ⟨#[46]⟩⟩),
  ("currency.go:163", "currency.go:164", ⟨⟨#[74, 69, 80]⟩, ⟨#[]⟩, 2, ⟨#[194, 163]⟩, ⟨#[36, 49]⟩, ⟨#[46]⟩, ⟨#[44]⟩⟩),
  ("currency.go:165", "currency.go:166", ⟨⟨#[74, 77, 68]⟩, ⟨#[51, 56, 56]⟩, 2, ⟨#[74, 36]⟩, ⟨#[36, 49]⟩, ⟨#[46]⟩, ⟨#[44]⟩⟩),
  ("currency.go:167", "currency.go:168", ⟨⟨#[74, 79, 68]⟩, ⟨#[52, 48, 48]⟩, 3, ⟨#[46, 216, 175, 46, 216, 165]⟩, ⟨#[49, 32, 36]⟩, ⟨#[46]⟩, ⟨#[44]⟩⟩),
  ("currency.go:169", "currency.go:170", ⟨⟨#[74, 80, 89]⟩, ⟨#[51, 57, 50]⟩, 0, ⟨#[194, 165]⟩, ⟨#[36, 49]⟩, ⟨#[46]⟩, ⟨#[44]⟩⟩),
  ("currency.go:171", "currency.go:172", ⟨⟨#[75, 69, 83]⟩, ⟨#[52, 48, 52]⟩, 2, ⟨#[75, 83, 104]⟩, ⟨#[36, 49]⟩, ⟨#[46]⟩, ⟨#[44]⟩⟩),
  ("currency.go:173", "currency.go:174", ⟨⟨#[75, 71, 83]⟩, ⟨#[52, 49, 55]⟩, 2, ⟨#[209, 129, 208, 190, 208, 188]⟩, ⟨#[49, 32, 36]⟩, ⟨#[46]⟩, ⟨#[44]⟩⟩),
  ("currency.go:175", "currency.go:176", ⟨⟨#[75, 72, 82]⟩, ⟨#[49, 49, 54]⟩, 2, ⟨#[225, 159, 155]⟩, ⟨#[36, 49]⟩, ⟨#[46]⟩, ⟨#[44]⟩⟩),
  ("currency.go:177", "currency.go:178", ⟨⟨#[75, 77, 70]⟩, ⟨#[49, 55, 52]⟩, 0, ⟨#[67, 70]⟩, ⟨#[36, 49]⟩, ⟨#[46]⟩, ⟨#[44]⟩⟩),
  ("currency.go:179", "currency.go:180", ⟨⟨#[75, 80, 87]⟩, ⟨#[52, 48, 56]⟩, 2, ⟨#[226, 130, 169]⟩, ⟨#[36, 49]⟩, ⟨#[46]⟩, ⟨#[44]⟩⟩),
  ("currency.go:181", "currency.go:182", ⟨⟨#[75, 82, 87]⟩, ⟨#[52, 49, 48]⟩, 0, ⟨#[226, 130, 169]⟩, ⟨#[36, 49]⟩, ⟨#[46]⟩, ⟨#[44]⟩⟩),
  ("currency.go:183", "currency.go:184", ⟨⟨#[75, 87, 68]⟩, ⟨#[52, 49, 52]⟩, 3, ⟨#[46, 216, 175, 46, 217, 131]⟩, ⟨#[49, 32, 36]⟩, ⟨#[46]⟩, ⟨#[44]⟩⟩),
  ("currency.go:185", "currency.go:186", ⟨⟨#[75, 89, 68]⟩, ⟨#[49, 51, 54]⟩, 2, ⟨#[36]⟩, ⟨#[36, 49]⟩, ⟨#[46]⟩, ⟨#[44]⟩⟩),
  ("currency.go:187", "currency.go:188", ⟨⟨#[75, 90, 84]⟩, ⟨#[51, 57, 56]⟩, 2, ⟨#[226, 130, 184]⟩, ⟨#[36, 49]⟩, ⟨#[46]⟩, ⟨#[44]⟩⟩),
  ("currency.go:189", "currency.go:190", ⟨⟨#[76, 65, 75]⟩, ⟨#[52, 49, 56]⟩, 2, ⟨#[226, 130, 173]⟩, ⟨#[36, 49]⟩, ⟨#[46]⟩, ⟨#[44]⟩⟩),
  ("currency.go:191", "currency.go:192", ⟨⟨#[76, 66, 80]⟩, ⟨#[52, 50, 50]⟩, 2, ⟨#[194, 163]⟩, ⟨#[36, 49]⟩, ⟨#[46]⟩, ⟨#[44]⟩⟩),
  ("currency.go:193", "currency.go:194", ⟨⟨#[76, 75, 82]⟩, ⟨#[49, 52, 52]⟩, 2, ⟨#[226, 130, 168]⟩, ⟨#[36, 49]⟩, ⟨#[46]⟩, ⟨#[44]⟩⟩),
  ("currency.go:195", "currency.go:196", ⟨⟨#[76, 82, 68]⟩, ⟨#[52, 51, 48]⟩, 2, ⟨#[36]⟩, ⟨#[36, 49]⟩, ⟨#[46]⟩, ⟨#[44]⟩⟩),
  ("currency.go:197", "currency.go:198", ⟨⟨#[76, 83, 76]⟩, ⟨#[52, 50, 54]⟩, 2, ⟨#[76]⟩, ⟨#[36, 49]⟩, ⟨#[46]⟩, ⟨#[44]⟩⟩),
  ("currency.go:199", "currency.go:200", ⟨⟨#[76, 84, 76]⟩, ⟨#[]⟩, 2, ⟨#[76, 116]⟩, ⟨#[36, 49]⟩, ⟨#[46]⟩, ⟨#[44]⟩⟩),
  ("currency.go:201", "currency.go:202", ⟨⟨#[76, 86, 76]⟩, ⟨#[]⟩, 2, ⟨#[76, 115]⟩, ⟨#[49, 32, 36]⟩, ⟨#[46]⟩, ⟨#[44]⟩⟩),
  ("currency.go:203", "currency.go:204", ⟨⟨#[76, 89, 68]⟩, ⟨#[52, 51, 52]⟩, 3, ⟨#[46, 216, 175, 46, 217, 132]⟩, ⟨#[49, 32, 36]⟩, ⟨#[46]⟩, ⟨#[44]⟩⟩),
  ("currency.go:205", "currency.go:206", ⟨⟨#[77, 65, 68]⟩, ⟨#[53, 48, 52]⟩, 2, ⟨#[46, 216, 175, 46, 217, 133]⟩, ⟨#[49, 32, 36]⟩, ⟨#[46]⟩, ⟨#[44]⟩⟩),
  ("currency.go:207", "currency.go:208", ⟨⟨#[77, 68, 76]⟩, ⟨#[52, 57, 56]⟩, 2, ⟨#[108, 101, 105]⟩, ⟨#[49, 32, 36]⟩, ⟨#[46]⟩, ⟨#[44]⟩⟩),
  ("currency.go:209", "currency.go:210", ⟨⟨#[77, 71, 65]⟩, ⟨#[57, 54, 57]⟩, 2, ⟨#[65, 114]⟩, ⟨#[49, 36]⟩, ⟨#[46]⟩, ⟨#[44]⟩⟩),
  ("currency.go:211", "currency.go:212", ⟨⟨#[77, 75, 68]⟩, ⟨#[56, 48, 55]⟩, 2, ⟨#[208, 180, 208, 181, 208, 189]⟩, ⟨#[36, 49]⟩, ⟨#[46]⟩, ⟨#[44]⟩⟩),
  ("currency.go:213", "currency.go:214", ⟨⟨#[77, 77, 75]⟩, ⟨#[49, 48, 52]⟩, 2, ⟨#[75]⟩, ⟨#[36, 49]⟩, ⟨#[46]⟩, ⟨#[44]⟩⟩),
  ("currency.go:215", "currency.go:216", ⟨⟨#[77, 78, 84]⟩, ⟨#[52, 57, 54]⟩, 2, ⟨#[226, 130, 174]⟩, ⟨#[36, 49]⟩, ⟨#[46]⟩, ⟨#[44]⟩⟩),
  ("currency.go:217", "currency.go:218", ⟨⟨#[77, 79, 80]⟩, ⟨#[52, 52, 54]⟩, 2, ⟨#[80]⟩, ⟨#[49, 32, 36]⟩, ⟨#[46]⟩, ⟨#[44]⟩⟩),
  ("currency.go:219", "currency.go:220", ⟨⟨#[77, 82, 85]⟩, ⟨#[57, 50, 57]⟩, 2, ⟨#[85, 77]⟩, ⟨#[36, 49]⟩, ⟨#[46]⟩, ⟨#[44]⟩⟩),
  ("currency.go:221", "currency.go:222", ⟨⟨#[77, 85, 82]⟩, ⟨#[52, 56, 48]⟩, 2, ⟨#[226, 130, 168]⟩, ⟨#[36, 49]⟩, ⟨#[46]⟩, ⟨#[44]⟩⟩),
  ("currency.go:223", "currency.go:224", ⟨⟨#[77, 86, 82]⟩, ⟨#[52, 54, 50]⟩, 2, ⟨#[77, 86, 82]⟩, ⟨#[49, 32, 36]⟩, ⟨#[46]⟩, ⟨#[44]⟩⟩),
  ("currency.go:225", "currency.go:226", ⟨⟨#[77, 87, 75]⟩, ⟨#[52, 53, 52]⟩, 2, ⟨#[77, 75]⟩, ⟨#[36, 49]⟩, ⟨#[46]⟩, ⟨#[44]⟩⟩),
  ("currency.go:227", "currency.go:228", ⟨⟨#[77, 88, 78]⟩, ⟨#[52, 56, 52]⟩, 2, ⟨#[36]⟩, ⟨#[36, 49]⟩, ⟨#[46]⟩, ⟨#[44]⟩⟩),
  ("currency.go:229", "currency.go:230", ⟨⟨#[77, 89, 82]⟩, ⟨#[52, 53, 56]⟩, 2, ⟨#[82, 77]⟩, ⟨#[36, 49]⟩, ⟨#[46]⟩, ⟨#[44]⟩⟩),
  ("currency.go:231", "currency.go:232", ⟨⟨#[77, 90, 78]⟩, ⟨#[57, 52, 51]⟩, 2, ⟨#[77, 84]⟩, ⟨#[36, 49]⟩, ⟨#[46]⟩, ⟨#[44]⟩⟩),
  ("currency.go:233", "currency.go:234", ⟨⟨#[78, 65, 68]⟩, ⟨#[53, 49, 54]⟩, 2, ⟨#[36]⟩, ⟨#[36, 49]⟩, ⟨#[46]⟩, ⟨#[44]⟩⟩),
  ("currency.go:235", "currency.go:236", ⟨⟨#[78, 71, 78]⟩, ⟨#[53, 54, 54]⟩, 2, ⟨#[226, 130, 166]⟩, ⟨#[36, 49]⟩, ⟨#[46]⟩, ⟨#[44]⟩⟩),
  ("currency.go:237", "currency.go:238", ⟨⟨#[78, 73, 79]⟩, ⟨#[53, 53, 56]⟩, 2, ⟨#[67, 36]⟩, ⟨#[36, 49]⟩, ⟨#[46]⟩, ⟨#[44]⟩⟩),
  ("currency.go:239", "currency.go:240", ⟨⟨#[78, 79, 75]⟩, ⟨#[53, 55, 56]⟩, 2, ⟨#[107, 114]⟩, ⟨#[49, 32, 36]⟩, ⟨#[46]⟩, ⟨#[44]⟩⟩),
  ("currency.go:241", "currency.go:242", ⟨⟨#[78, 80, 82]⟩, ⟨#[53, 50, 52]⟩, 2, ⟨#[226, 130, 168]⟩, ⟨#[36, 49]⟩, ⟨#[46]⟩, ⟨#[44]⟩⟩),
  ("currency.go:243", "currency.go:244", ⟨⟨#[78, 90, 68]⟩, ⟨#[53, 53, 52]⟩, 2, ⟨#[36]⟩, ⟨#[36, 49]⟩, ⟨#[46]⟩, ⟨#[44]⟩⟩),
  ("currency.go:245", "currency.go:246", ⟨⟨#[79, 77, 82]⟩, ⟨#[53, 49, 50]⟩, 3, ⟨#[239, 183, 188]⟩, ⟨#[49, 32, 36]⟩, ⟨#[46]⟩, ⟨#[44]⟩⟩),
  ("currency.go:247", "currency.go:248", ⟨⟨#[80, 65, 66]⟩, ⟨#[53, 57, 48]⟩, 2, ⟨#[66, 47, 46]⟩, ⟨#[36, 49]⟩, ⟨#[46]⟩, ⟨#[44]⟩⟩),
  ("currency.go:249", "currency.go:250", ⟨⟨#[80, 69, 78]⟩, ⟨#[54, 48, 52]⟩, 2, ⟨#[83, 47]⟩, ⟨#[36, 49]⟩, ⟨#[46]⟩, ⟨#[44]⟩⟩),
  ("currency.go:251", "currency.go:252", ⟨⟨#[80, 71, 75]⟩, ⟨#[53, 57, 56]⟩, 2, ⟨#[75]⟩, ⟨#[49, 32, 36]⟩, ⟨#[46]⟩, ⟨#[44]⟩⟩),
  ("currency.go:253", "currency.go:254", ⟨⟨#[80, 72, 80]⟩, ⟨#[54, 48, 56]⟩, 2, ⟨#[226, 130, 177]⟩, ⟨#[36, 49]⟩, ⟨#[46]⟩, ⟨#[44]⟩⟩),
  ("currency.go:255", "currency.go:256", ⟨⟨#[80, 75, 82]⟩, ⟨#[53, 56, 54]⟩, 2, ⟨#[226, 130, 168]⟩, ⟨#[36, 49]⟩, ⟨#[46]⟩, ⟨#[44]⟩⟩),
  ("currency.go:257", "currency.go:258", ⟨⟨#[80, 76, 78]⟩, ⟨#[57, 56, 53]⟩, 2, ⟨#[122, 197, 130]⟩, ⟨#[49, 32, 36]⟩, ⟨#[46]⟩, ⟨#[44]⟩⟩),
  ("currency.go:259", "currency.go:260", ⟨⟨#[80, 89, 71]⟩, ⟨#[54, 48, 48]⟩, 0, ⟨#[71, 115]⟩, ⟨#[49, 36]⟩, ⟨#[46]⟩, ⟨#[44]⟩⟩),
  ("currency.go:261", "currency.go:262", ⟨⟨#[81, 65, 82]⟩, ⟨#[54, 51, 52]⟩, 2, ⟨#[239, 183, 188]⟩, ⟨#[49, 32, 36]⟩, ⟨#[46]⟩, ⟨#[44]⟩⟩),
  ("currency.go:263", "currency.go:264", ⟨⟨#[82, 79, 78]⟩, ⟨#[57, 52, 54]⟩, 2, ⟨#[108, 101, 105]⟩, ⟨#[36, 49]⟩, ⟨#[46]⟩, ⟨#[44]⟩⟩),
  ("currency.go:265", "currency.go:266", ⟨⟨#[82, 83, 68]⟩, ⟨#[57, 52, 49]⟩, 2, ⟨#[208, 148, 208, 184, 208, 189, 46]⟩, ⟨#[36, 49]⟩, ⟨#[46]⟩, ⟨#[44]⟩⟩),
  ("currency.go:267", "currency.go:268", ⟨⟨#[82, 85, 66]⟩, ⟨#[54, 52, 51]⟩, 2, ⟨#[226, 130, 189]⟩, ⟨#[49, 32, 36]⟩, ⟨#[46]⟩, ⟨#[44]⟩⟩),
  ("currency.go:269", "currency.go:270", ⟨⟨#[82, 85, 82]⟩, ⟨#[]⟩, 2, ⟨#[226, 130, 189]⟩, ⟨#[49, 32, 36]⟩, ⟨#[46]⟩, ⟨#[44]⟩⟩),
  ("currency.go:271", "currency.go:272", ⟨⟨#[82, 87, 70]⟩, ⟨#[54, 52, 54]⟩, 0, ⟨#[70, 82, 119]⟩, ⟨#[49, 32, 36]⟩, ⟨#[46]⟩, ⟨#[44]⟩⟩),
  ("currency.go:273", "currency.go:274", ⟨⟨#[83, 65, 82]⟩, ⟨#[54, 56, 50]⟩, 2, ⟨#[239, 183, 188]⟩, ⟨#[49, 32, 36]⟩, ⟨#[46]⟩, ⟨#[44]⟩⟩),
  ("currency.go:275", "currency.go:276", ⟨⟨#[83, 66, 68]⟩, ⟨#[48, 57, 48]⟩, 2, ⟨#[36]⟩, ⟨#[36, 49]⟩, ⟨#[46]⟩, ⟨#[44]⟩⟩),
  ("currency.go:277", "currency.go:278", ⟨⟨#[83, 67, 82]⟩, ⟨#[54, 57, 48]⟩, 2, ⟨#[226, 130, 168]⟩, ⟨#[36, 49]⟩, ⟨#[46]⟩, ⟨#[44]⟩⟩),
  ("currency.go:279", "currency.go:280", ⟨⟨#[83, 68, 71]⟩, ⟨#[57, 51, 56]⟩, 2, ⟨#[194, 163]⟩, ⟨#[36, 49]⟩, ⟨#[46]⟩, ⟨#[44]⟩⟩),
  ("currency.go:281", "currency.go:282", ⟨⟨#[83, 69, 75]⟩, ⟨#[55, 53, 50]⟩, 2, ⟨#[107, 114]⟩, ⟨#[49, 32, 36]⟩, ⟨#[46]⟩, ⟨#[44]⟩⟩),
  ("currency.go:283", "currency.go:284", ⟨⟨#[83, 71, 68]⟩, ⟨#[55, 48, 50]⟩, 2, ⟨#[83, 36]⟩, ⟨#[36, 49]⟩, ⟨#[46]⟩, ⟨#[44]⟩⟩),
  ("currency.go:285", "currency.go:286", ⟨⟨#[83, 72, 80]⟩, ⟨#[54, 53, 52]⟩, 2, ⟨#[194, 163]⟩, ⟨#[36, 49]⟩, ⟨#[46]⟩, ⟨#[44]⟩⟩),
  ("currency.go:287", "currency.go:288", ⟨⟨#[83, 75, 75]⟩, ⟨#[]⟩, 2, ⟨#[83, 107]⟩, ⟨#[36, 49]⟩, ⟨#[46]⟩, ⟨#[44]⟩⟩),
  ("currency.go:289", "currency.go:290", ⟨⟨#[83, 76, 69]⟩, ⟨#[57, 50, 53]⟩, 2, ⟨#[76, 101]⟩, ⟨#[49, 32, 36]⟩, ⟨#[46]⟩, ⟨#[44]⟩⟩),
  ("currency.go:291", "currency.go:292", ⟨⟨#[83, 76, 76]⟩, ⟨#[54, 57, 52]⟩, 2, ⟨#[76, 101]⟩, ⟨#[49, 32, 36]⟩, ⟨#[46]⟩, ⟨#[44]⟩⟩),
  ("currency.go:293", "currency.go:294", ⟨⟨#[83, 79, 83]⟩, ⟨#[55, 48, 54]⟩, 2, ⟨#[83, 104]⟩, ⟨#[49, 32, 36]⟩, ⟨#[46]⟩, ⟨#[44]⟩⟩),
  ("currency.go:295", "currency.go:296", ⟨⟨#[83, 82, 68]⟩, ⟨#[57, 54, 56]⟩, 2, ⟨#[36]⟩, ⟨#[36, 49]⟩, ⟨#[46]⟩, ⟨#[44]⟩⟩),
  ("currency.go:297", "currency.go:298", ⟨⟨#[83, 83, 80]⟩, ⟨#[55, 50, 56]⟩, 2, ⟨#[194, 163]⟩, ⟨#[49, 32, 36]⟩, ⟨#[46]⟩, ⟨#[44]⟩⟩),
  ("currency.go:299", "currency.go:300", ⟨⟨#[83, 84, 68]⟩, ⟨#[]⟩, 2, ⟨#[68, 98]⟩, ⟨#[49, 32, 36]⟩, ⟨#[46]⟩, ⟨#[44]⟩⟩),
  ("currency.go:301", "currency.go:302", ⟨⟨#[83, 84, 78]⟩, ⟨#[57, 51, 48]⟩, 2, ⟨#[68, 98]⟩, ⟨#[49, 32, 36]⟩, ⟨#[46]⟩, ⟨#[44]⟩⟩),
  ("currency.go:303", "currency.go:304", ⟨⟨#[83, 86, 67]⟩, ⟨#[50, 50, 50]⟩, 2, ⟨#[226, 130, 161]⟩, ⟨#[36, 49]⟩, ⟨#[46]⟩, ⟨#[44]⟩⟩),
  ("currency.go:305", "currency.go:306", ⟨⟨#[83, 89, 80]⟩, ⟨#[55, 54, 48]⟩, 2, ⟨#[194, 163]⟩, ⟨#[49, 32, 36]⟩, ⟨#[46]⟩, ⟨#[44]⟩⟩),
  ("currency.go:307", "currency.go:308", ⟨⟨#[83, 90, 76]⟩, ⟨#[55, 52, 56]⟩, 2, ⟨#[194, 163]⟩, ⟨#[36, 49]⟩, ⟨#[46]⟩, ⟨#[44]⟩⟩),
  ("currency.go:309", "currency.go:310", ⟨⟨#[84, 72, 66]⟩, ⟨#[55, 54, 52]⟩, 2, ⟨#[224, 184, 191]⟩, ⟨#[36, 49]⟩, ⟨#[46]⟩, ⟨#[44]⟩⟩),
  ("currency.go:311", "currency.go:312", ⟨⟨#[84, 74, 83]⟩, ⟨#[57, 55, 50]⟩, 2, ⟨#[83, 77]⟩, ⟨#[49, 32, 36]⟩, ⟨#[46]⟩, ⟨#[44]⟩⟩),
  ("currency.go:313", "currency.go:314", ⟨⟨#[84, 77, 84]⟩, ⟨#[57, 51, 52]⟩, 2, ⟨#[84]⟩, ⟨#[49, 32, 36]⟩, ⟨#[46]⟩, ⟨#[44]⟩⟩),
  ("currency.go:315", "currency.go:316", ⟨⟨#[84, 78, 68]⟩, ⟨#[55, 56, 56]⟩, 3, ⟨#[46, 216, 175, 46, 216, 170]⟩, ⟨#[49, 32, 36]⟩, ⟨#[46]⟩, ⟨#[44]⟩⟩),
  ("currency.go:317", "currency.go:318", ⟨⟨#[84, 79, 80]⟩, ⟨#[55, 55, 54]⟩, 2, ⟨#[84, 36]⟩, ⟨#[36, 49]⟩, ⟨#[46]⟩, ⟨#[44]⟩⟩),
  ("currency.go:319", "currency.go:320", ⟨⟨#[84, 82, 76]⟩, ⟨#[]⟩, 2, ⟨#[226, 130, 164]⟩, ⟨#[36, 49]⟩, ⟨#[46]⟩, ⟨#[44]⟩⟩),
  ("currency.go:321", "currency.go:322", ⟨⟨#[84, 82, 89]⟩, ⟨#[57, 52, 57]⟩, 2, ⟨#[226, 130, 186]⟩, ⟨#[36, 49]⟩, ⟨#[46]⟩, ⟨#[44]⟩⟩),
  ("currency.go:323", "currency.go:324", ⟨⟨#[84, 84, 68]⟩, ⟨#[55, 56, 48]⟩, 2, ⟨#[84, 84, 36]⟩, ⟨#[36, 49]⟩, ⟨#[46]⟩, ⟨#[44]⟩⟩),
  ("currency.go:325", "currency.go:326", ⟨⟨#[84, 87, 68]⟩, ⟨#[57, 48, 49]⟩, 2, ⟨#[78, 84, 36]⟩, ⟨#[36, 49]⟩, ⟨#[46]⟩, ⟨#[44]⟩⟩),
  ("currency.go:327", "currency.go:328", ⟨⟨#[84, 90, 83]⟩, ⟨#[56, 51, 52]⟩, 2, ⟨#[84, 83, 104]⟩, ⟨#[36, 49]⟩, ⟨#[46]⟩, ⟨#[44]⟩⟩),
  ("currency.go:329", "currency.go:330", ⟨⟨#[85, 65, 72]⟩, ⟨#[57, 56, 48]⟩, 2, ⟨#[226, 130, 180]⟩, ⟨#[49, 32, 36]⟩, ⟨#[46]⟩, ⟨#[44]⟩⟩),
  ("currency.go:331", "currency.go:332", ⟨⟨#[85, 71, 88]⟩, ⟨#[56, 48, 48]⟩, 0, ⟨#[85, 83, 104]⟩, ⟨#[49, 32, 36]⟩, ⟨#[46]⟩, ⟨#[44]⟩⟩),
  ("currency.go:333", "currency.go:334", ⟨⟨#[85, 83, 68]⟩, ⟨#[56, 52, 48]⟩, 2, ⟨#[36]⟩, ⟨#[36, 49]⟩, ⟨#[46]⟩, ⟨#[44]⟩⟩),
  ("currency.go:335", "currency.go:336", ⟨⟨#[85, 89, 85]⟩, ⟨#[56, 53, 56]⟩, 2, ⟨#[36, 85]⟩, ⟨#[36, 49]⟩, ⟨#[46]⟩, ⟨#[44]⟩⟩),
  ("currency.go:337", "currency.go:338", ⟨⟨#[85, 90, 83]⟩, ⟨#[56, 54, 48]⟩, 2, ⟨#[115, 111, 226, 128, 153, 109]⟩, ⟨#[36, 49]⟩, ⟨#[46]⟩, ⟨#[44]⟩⟩),
  ("currency.go:339", "currency.go:340", ⟨⟨#[86, 69, 70]⟩, ⟨#[57, 51, 55]⟩, 2, ⟨#[66, 115]⟩, ⟨#[36, 49]⟩, ⟨#[46]⟩, ⟨#[44]⟩⟩),
  ("currency.go:341", "currency.go:342", ⟨⟨#[86, 69, 83]⟩, ⟨#[57, 50, 56]⟩, 2, ⟨#[66, 115, 46, 83]⟩, ⟨#[36, 49]⟩, ⟨#[46]⟩, ⟨#[44]⟩⟩),
  ("currency.go:343", "currency.go:344", ⟨⟨#[86, 78, 68]⟩, ⟨#[55, 48, 52]⟩, 0, ⟨#[226, 130, 171]⟩, ⟨#[49, 32, 36]⟩, ⟨#[46]⟩, ⟨#[44]⟩⟩),
  ("currency.go:345", "currency.go:346", ⟨⟨#[86, 85, 86]⟩, ⟨#[53, 52, 56]⟩, 0, ⟨#[86, 116]⟩, ⟨#[36, 49]⟩, ⟨#[46]⟩, ⟨#[44]⟩⟩),
  ("currency.go:347", "currency.go:348", ⟨⟨#[87, 83, 84]⟩, ⟨#[56, 56, 50]⟩, 2, ⟨#[84]⟩, ⟨#[49, 32, 36]⟩, ⟨#[46]⟩, ⟨#[44]⟩⟩),
  ("currency.go:349", "currency.go:350", ⟨⟨#[88, 65, 70]⟩, ⟨#[57, 53, 48]⟩, 0, ⟨#[70, 114]⟩, ⟨#[49, 32, 36]⟩, ⟨#[46]⟩, ⟨#[44]⟩⟩),
  ("currency.go:351", "currency.go:352", ⟨⟨#[88, 65, 71]⟩, ⟨#[57, 54, 49]⟩, 0, ⟨#[111, 122, 32, 116]⟩, ⟨#[49, 32, 36]⟩, ⟨#[46]⟩, ⟨#[44]⟩⟩),
  ("currency.go:353", "currency.go:354", ⟨⟨#[88, 65, 85]⟩, ⟨#[57, 53, 57]⟩, 0, ⟨#[111, 122, 32, 116]⟩, ⟨#[49, 32, 36]⟩, ⟨#[46]⟩, ⟨#[44]⟩⟩),
  ("currency.go:355", "currency.go:356", ⟨⟨#[88, 67, 68]⟩, ⟨#[57, 53, 49]⟩, 2, ⟨#[36]⟩, ⟨#[36, 49]⟩, ⟨#[46]⟩, ⟨#[44]⟩⟩),
  ("currency.go:357", "currency.go:358", ⟨⟨#[88, 67, 71]⟩, ⟨#[53, 51, 50]⟩, 2, ⟨#[67, 103]⟩, ⟨#[36, 49]⟩, ⟨#[44]⟩, ⟨#[46]⟩⟩),
  ("currency.go:359", "currency.go:360", ⟨⟨#[88, 68, 82]⟩, ⟨#[57, 54, 48]⟩, 0, ⟨#[83, 68, 82]⟩, ⟨#[49, 32, 36]⟩, ⟨#[46]⟩, ⟨#[44]⟩⟩),
  ("currency.go:361", "currency.go:362", ⟨⟨#[88, 79, 70]⟩, ⟨#[57, 53, 50]⟩, 0, ⟨#[67, 70, 65]⟩, ⟨#[49, 32, 36]⟩, ⟨#[46]⟩, ⟨#[44]⟩⟩),
  ("currency.go:363", "currency.go:364", ⟨⟨#[88, 80, 70]⟩, ⟨#[57, 53, 51]⟩, 0, ⟨#[226, 130, 163]⟩, ⟨#[49, 32, 36]⟩, ⟨#[46]⟩, ⟨#[44]⟩⟩),
  ("currency.go:365", "currency.go:366", ⟨⟨#[89, 69, 82]⟩, ⟨#[56, 56, 54]⟩, 2, ⟨#[239, 183, 188]⟩, ⟨#[49, 32, 36]⟩, ⟨#[46]⟩, ⟨#[44]⟩⟩),
  ("currency.go:367", "currency.go:368", ⟨⟨#[90, 65, 82]⟩, ⟨#[55, 49, 48]⟩, 2, ⟨#[82]⟩, ⟨#[36, 49]⟩, ⟨#[46]⟩, ⟨#[44]⟩⟩),
  ("currency.go:369", "currency.go:370", ⟨⟨#[90, 77, 87]⟩, ⟨#[57, 54, 55]⟩, 2, ⟨#[90, 75]⟩, ⟨#[36, 49]⟩, ⟨#[46]⟩, ⟨#[44]⟩⟩),
  ("currency.go:371", "currency.go:372", ⟨⟨#[90, 87, 68]⟩, ⟨#[55, 49, 54]⟩, 2, ⟨#[90, 36]⟩, ⟨#[36, 49]⟩, ⟨#[46]⟩, ⟨#[44]⟩⟩),
  ("currency.go:373", "currency.go:374", ⟨⟨#[90, 87, 76]⟩, ⟨#[57, 51, 50]⟩, 2, ⟨#[90, 36]⟩, ⟨#[36, 49]⟩, ⟨#[46]⟩, ⟨#[44]⟩⟩)
]

def curTab : List Cur := curRows.map (·.2.2)
def curFind (l : List Cur) (s : ByteArray) : Option Cur := l.find? fun c => s.toList == c.code.toList
def curOf (s : ByteArray) : Option Cur := curFind curTab s

/-- One case of the switch. -/
def armCode (k : Nat) (p1 p2 : String) (c : Cur) (rest : Code) : Code :=
  .seq (.region (2 * k + 2) #[
      { dst := some (4 * k + 6), op := .binOp .eql 9 (.tmp 4) (.const (.string c.code)) 9, type := 4, pos := p1, after := #[], guard := none },
      { dst := some (4 * k + 5), op := .assign (.tmp (4 * k + 6)), type := 4, pos := p1, after := #[{ on := 0, ground := .data }], guard := none }] false)
    (.cond (.tmp (4 * k + 5))
      (.seq (.region (2 * k + 3) #[
          { dst := some (4 * k + 7), op := .build 42 #[(5, .const (.string c.dec)), (6, .const (.string c.thou)), (0, .const (.string c.code)), (2, .const (.int .i64 c.frac)), (1, .const (.string c.num)), (3, .const (.string c.graph)), (4, .const (.string c.tmpl))], type := 42, pos := p2, after := #[], guard := none },
          { dst := some (4 * k + 8), op := .box 42 (.tmp (4 * k + 7)), type := 43, pos := p2, after := #[{ on := 0, ground := .data }], guard := none },
          { dst := some 2, op := .assign (.tmp (4 * k + 8)), type := 43, pos := p2, after := #[{ on := 1, ground := .data }, { on := 0, ground := .phase }, { on := 1, ground := .phase }], guard := none },
          { dst := some 3, op := .assign (.const (.bool true)), type := 4, pos := p2, after := #[{ on := 2, ground := .chain }, { on := 0, ground := .phase }, { on := 1, ground := .phase }, { on := 2, ground := .phase }], guard := none }] false) .ret)
      rest)

def swCode : Nat → List (String × String × Cur) → Code
  | _, [] => .skip
  | k, (p1, p2, c) :: r => armCode k p1 p2 c (swCode (k + 1) r)

theorem cur_body : Tryd.f40.body = some (
    .seq (.region 0 #[
        { dst := some 2, op := .assign (.const (.pointer none)), type := 43, pos := "currency.go:19", after := #[], guard := none },
        { dst := some 3, op := .assign (.const (.bool false)), type := 4, pos := "currency.go:19", after := #[{ on := 0, ground := .chain }], guard := none }] false)
      (.seq (.seq (.region 1 #[
          { dst := some 4, op := .move (.tmp 0), type := 9, pos := "currency.go:20", after := #[], guard := none }] false)
        (.block 0 (swCode 0 curRows)))
        (.seq (.region 356 #[
          { dst := some 2, op := .assign (.const (.pointer none)), type := 43, pos := "currency.go:376", after := #[], guard := none },
          { dst := some 3, op := .assign (.const (.bool false)), type := 4, pos := "currency.go:376", after := #[{ on := 0, ground := .chain }, { on := 0, ground := .phase }], guard := none }] false) .ret))) := by kernel_rfl

theorem getD_set_eq (xs : Array Value) (i : Nat) (v : Value) (h : i < xs.size) : (xs.setIfInBounds i v).getD i undef = v := by
  simp [Array.getD, h]
theorem getD_set_ne (xs : Array Value) (i j : Nat) (v : Value) (h : i ≠ j) : (xs.setIfInBounds i v).getD j undef = xs.getD j undef := by
  by_cases hj : j < xs.size <;> simp [Array.getD, hj, h]

theorem arm_yes {s : ByteArray} {w : World} {Q : Exit → Act → World → Prop} {k : Nat} {p1 p2 : String} {c : Cur} {rest : Code} {a : Act} (hsz : 4 * k + 9 ≤ a.tmps.size) (h4 : a.tmps.getD 4 undef = .string s)
    (he : (s.toList == c.code.toList) = true)
    (hq : ∀ a' : Act, a'.defers = a.defers → a'.tmps.getD 2 undef = .pointer (some ⟨w.heap.size, 0, none⟩) → a'.tmps.getD 3 undef = .bool true → Q .ret a' (w.alloc (.cells c.cells 42))) :
    (armCode k p1 p2 c rest).wp Tryd.prog Q a w := by
  obtain ⟨T, D⟩ := a
  simp only at hsz h4 hq
  unfold armCode
  refine wp_seq_k (fun K hK => ?_)
  refine wp_region_lit ?_
  refine wpList_plain rfl (fun K1 hK1 => ?_)
  go_simp
  refine hK1 _ _ ?_; clear hK1 K1
  have e1 := getD_set_eq T (4 * k + 6) (.bool true) (by omega)
  refine wpList_plain rfl (fun K1 hK1 => ?_)
  go_simp
  refine hK1 _ _ (wpList_nil ?_); clear hK1 K1
  refine hK _ _ ?_; clear hK K
  have e2 := getD_set_eq (T.setIfInBounds (4 * k + 6) (.bool true)) (4 * k + 5) (.bool true) (by simp; omega)
  refine wp_cond_true e2 ?_
  clear e1 e2 h4
  generalize hT : (T.setIfInBounds (4 * k + 6) (.bool true)).setIfInBounds (4 * k + 5) (.bool true) = T2
  have hsz2 : 4 * k + 9 ≤ T2.size := by rw [← hT]; simpa using hsz
  clear hT hsz
  refine wp_seq_k (fun K hK => ?_)
  refine wp_region_lit ?_
  refine wpList_plain rfl (fun K1 hK1 => ?_)
  go_simp
  refine hK1 _ _ ?_; clear hK1 K1
  have e1 := getD_set_eq T2 (4 * k + 7) (.agg c.cells) (by omega)
  unfold Cur.cells at e1
  refine wpList_plain rfl (fun K1 hK1 => ?_)
  go_simp
  refine hK1 _ _ ?_; clear hK1 K1
  clear e1
  have e1 := getD_set_eq (T2.setIfInBounds (4 * k + 7) (.agg #[.string c.code, .string c.num, .int .i64 c.frac, .string c.graph, .string c.tmpl, .string c.dec, .string c.thou])) (4 * k + 8) (.pointer (some ⟨w.heap.size, 0, none⟩)) (by simp; omega)
  have hsz3 : 4 < (T2.setIfInBounds (4 * k + 7) (.agg #[.string c.code, .string c.num, .int .i64 c.frac, .string c.graph, .string c.tmpl, .string c.dec, .string c.thou])).size := by simp; omega
  generalize T2.setIfInBounds (4 * k + 7) (.agg #[.string c.code, .string c.num, .int .i64 c.frac, .string c.graph, .string c.tmpl, .string c.dec, .string c.thou]) = T3 at *
  refine wpList_plain rfl (fun K1 hK1 => ?_)
  go_simp
  refine hK1 _ _ ?_; clear hK1 K1
  clear e1
  refine wpList_plain rfl (fun K1 hK1 => ?_)
  go_simp
  refine hK1 _ _ (wpList_nil ?_); clear hK1 K1
  refine hK _ _ (wp_ret ?_); clear hK K
  exact hq _ rfl (by rw [getD_set_ne _ _ _ _ (by omega), getD_set_eq _ _ _ (by simp; omega)]) (by rw [getD_set_eq _ _ _ (by simp; omega)])

theorem arm_no {s : ByteArray} {w : World} {Q : Exit → Act → World → Prop} {k : Nat} {p1 p2 : String} {c : Cur} {rest : Code} {a : Act} (hsz : 4 * k + 9 ≤ a.tmps.size) (h4 : a.tmps.getD 4 undef = .string s)
    (he : (s.toList == c.code.toList) = false)
    (hq : ∀ a' : Act, a'.defers = a.defers → a'.tmps.size = a.tmps.size → a'.tmps.getD 4 undef = .string s → rest.wp Tryd.prog Q a' w) :
    (armCode k p1 p2 c rest).wp Tryd.prog Q a w := by
  obtain ⟨T, D⟩ := a
  simp only at hsz h4 hq
  unfold armCode
  refine wp_seq_k (fun K hK => ?_)
  refine wp_region_lit ?_
  refine wpList_plain rfl (fun K1 hK1 => ?_)
  go_simp
  refine hK1 _ _ ?_; clear hK1 K1
  have e1 := getD_set_eq T (4 * k + 6) (.bool false) (by omega)
  refine wpList_plain rfl (fun K1 hK1 => ?_)
  go_simp
  refine hK1 _ _ (wpList_nil ?_); clear hK1 K1
  refine hK _ _ ?_; clear hK K
  have e2 := getD_set_eq (T.setIfInBounds (4 * k + 6) (.bool false)) (4 * k + 5) (.bool false) (by simp; omega)
  refine wp_cond_false e2 ?_
  exact hq _ rfl (by simp) (by rw [getD_set_ne _ _ _ _ (by omega), getD_set_ne _ _ _ _ (by omega)]; exact h4)

theorem sw_wp {s : ByteArray} {w : World} {Q : Exit → Act → World → Prop} (rows : List (String × String × Cur)) : ∀ (k : Nat) (a : Act), 4 * (k + rows.length) + 5 ≤ a.tmps.size → a.tmps.getD 4 undef = .string s →
    (curFind (rows.map (·.2.2)) s = none → ∀ a' : Act, a'.defers = a.defers → a'.tmps.size = a.tmps.size → Q .normal a' w) →
    (∀ c, curFind (rows.map (·.2.2)) s = some c → ∀ a' : Act, a'.defers = a.defers → a'.tmps.getD 2 undef = .pointer (some ⟨w.heap.size, 0, none⟩) → a'.tmps.getD 3 undef = .bool true → Q .ret a' (w.alloc (.cells c.cells 42))) →
    (swCode k rows).wp Tryd.prog Q a w := by
  induction rows with
  | nil =>
    intro k a _ _ h0 _
    exact wp_skip (h0 rfl a rfl rfl)
  | cons r rows ih =>
    obtain ⟨p1, p2, c⟩ := r
    intro k a hsz h4 h0 h1
    simp only [List.length_cons] at hsz
    unfold swCode
    by_cases he : (s.toList == c.code.toList) = true
    · refine arm_yes (by omega) h4 he ?_
      refine h1 c ?_
      simp [curFind, he]
    · have he' : (s.toList == c.code.toList) = false := by simpa using he
      have hf : curFind ((((p1, p2, c) :: rows).map (·.2.2))) s = curFind (rows.map (·.2.2)) s := by
        simp [curFind, he']
      rw [hf] at h0 h1
      refine arm_no (by omega) h4 he' (fun a' hd hs h4' => ?_)
      exact ih (k + 1) a' (by rw [hs]; omega) h4' (fun hn a2 hd2 hs2 => h0 hn a2 (hd2.trans hd) (hs2.trans hs)) (fun c' hc a2 hd2 => h1 c' hc a2 (hd2.trans hd))

theorem enter_tmps (v : Value) (n j : Nat) (hj : 1 ≤ j) : (#[v] ++ Array.replicate n undef).getD j undef = undef := by
  by_cases h : j < 1 + n <;> simp [Array.getD, Array.getElem_append, h]
  omega

theorem currencyOf_wp (s : ByteArray) (w : World) (Q : Exit → Act → World → Prop) (a : Act) (hsz : a.tmps.size = 713) (h0 : a.tmps.getD 0 undef = .string s)
    (hn : curOf s = none → ∀ a' : Act, a'.defers = a.defers → a'.tmps.getD 2 undef = .pointer none → a'.tmps.getD 3 undef = .bool false → Q .ret a' w)
    (hs : ∀ c, curOf s = some c → ∀ a' : Act, a'.defers = a.defers → a'.tmps.getD 2 undef = .pointer (some ⟨w.heap.size, 0, none⟩) → a'.tmps.getD 3 undef = .bool true → Q .ret a' (w.alloc (.cells c.cells 42)))
    (c : Code) (hb : Tryd.f40.body = some c) : c.wp Tryd.prog Q a w := by
  rw [cur_body] at hb
  obtain rfl := Option.some.inj hb
  clear hb
  obtain ⟨T, D⟩ := a
  simp only at hsz h0 hn hs
  refine wp_seq_k (fun K hK => ?_)
  refine wp_region_lit ?_
  refine wpList_plain rfl (fun K1 hK1 => ?_)
  go_simp
  refine hK1 _ _ ?_; clear hK1 K1
  refine wpList_plain rfl (fun K1 hK1 => ?_)
  go_simp
  refine hK1 _ _ (wpList_nil ?_); clear hK1 K1
  refine hK _ _ ?_; clear hK K
  have h0' : ((T.setIfInBounds 2 (.pointer none)).setIfInBounds 3 (.bool false)).getD 0 undef = .string s := by rw [getD_set_ne _ _ _ _ (by omega), getD_set_ne _ _ _ _ (by omega)]; exact h0
  have hsz' : ((T.setIfInBounds 2 (.pointer none)).setIfInBounds 3 (.bool false)).size = 713 := by simpa using hsz
  generalize (T.setIfInBounds 2 (.pointer none)).setIfInBounds 3 (.bool false) = T2 at *
  clear h0 hsz T
  refine wp_seq_k (fun K hK => ?_)
  refine wp_seq_k (fun K2 hK2 => ?_)
  refine wp_region_lit ?_
  refine wpList_plain rfl (fun K1 hK1 => ?_)
  go_simp
  refine hK1 _ _ (wpList_nil ?_); clear hK1 K1
  refine hK2 _ _ ?_; clear hK2 K2
  refine wp_block ?_
  refine sw_wp curRows 0 _ ?_ (getD_set_eq _ _ _ (by omega)) ?_ ?_
  · have : curRows.length = 177 := by kernel_rfl
    simp [this, hsz']
  · intro hf a' hd hz
    refine hK _ _ ?_
    obtain ⟨T3, D3⟩ := a'
    simp only [Array.size_setIfInBounds] at hd hz
    refine wp_seq_k (fun K3 hK3 => ?_)
    refine wp_region_lit ?_
    refine wpList_plain rfl (fun K1 hK1 => ?_)
    go_simp
    refine hK1 _ _ ?_; clear hK1 K1
    refine wpList_plain rfl (fun K1 hK1 => ?_)
    go_simp
    refine hK1 _ _ (wpList_nil ?_); clear hK1 K1
    refine hK3 _ _ (wp_ret ?_)
    exact hn hf _ rfl (by rw [getD_set_ne _ _ _ _ (by omega), getD_set_eq _ _ _ (by omega)]) (by rw [getD_set_eq _ _ _ (by simp; omega)])
  · intro c hf a' hd h2 h3
    exact hs c hf a' hd h2 h3

/-- currencyOf: the row of that code in new memory. -/
theorem currencyOf_some (s : ByteArray) (c : Cur) (w : World) (hc : curOf s = some c) :
    Calls Tryd.prog 40 #[.string s] w fun e w' => e = .returned (.tuple #[.pointer (some ⟨w.heap.size, 0, none⟩), .bool true]) ∧ w' = w.alloc (.cells c.cells 42) := by
  refine calls_of_wp Tryd.func40 cur_body ?_
  refine currencyOf_wp s w _ _ (by rw [Tryd.ntmps40]; simp) (by simp [Array.getD]) (fun h => by rw [hc] at h; cases h) ?_ _ cur_body
  intro c' hc' a' hd h2 h3
  obtain rfl : c = c' := Option.some.inj (hc.symm.trans hc')
  refine bodyPost_ret (results_tmp2 rfl _ _ _) hd ⟨?_, rfl⟩
  rw [h2, h3]

/-- currencyOf: nil and false where the table has no such code. -/
theorem currencyOf_none (s : ByteArray) (w : World) (hc : curOf s = none) :
    Calls Tryd.prog 40 #[.string s] w fun e w' => e = .returned (.tuple #[.pointer none, .bool false]) ∧ w' = w := by
  refine calls_of_wp Tryd.func40 cur_body ?_
  refine currencyOf_wp s w _ _ (by rw [Tryd.ntmps40]; simp) (by simp [Array.getD]) ?_ (fun c h => by rw [hc] at h; cases h) _ cur_body
  intro _ a' hd h2 h3
  refine bodyPost_ret (results_tmp2 rfl _ _ _) hd ⟨?_, rfl⟩
  rw [h2, h3]
#print axioms currencyOf_some
#print axioms currencyOf_none
end Go.Proofs.YtfbdjffpnioinaaDoor
